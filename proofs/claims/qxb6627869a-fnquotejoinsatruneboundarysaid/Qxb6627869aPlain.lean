/-
  The RFC 3629 table against the model's own decoder, with no Go in sight
-/
import Derived.Test.Qxb6627869aQuote
import Derived.Lib.DecodeN
namespace Go.Proofs.Qxb6627869a
open Go.RowKit

/-- The width behind the table's row (sz, lo, hi). -/
def wN (n b1 b2 b3 sz lo hi : Nat) : Nat :=
  if n < sz then 0 else if b1 < lo ∨ hi < b1 then 0 else if sz ≤ 2 then 2 else if b2 < 128 ∨ 191 < b2 then 0 else if sz ≤ 3 then 3 else if b3 < 128 ∨ 191 < b3 then 0 else 4
/-- The row of a lead byte; (0, 0, 0) where none starts. -/
def rowOf (b0 : Nat) : Nat × Nat × Nat :=
  if b0 < 194 then (0, 0, 0) else if b0 < 224 then (2, 128, 191) else if b0 = 224 then (3, 160, 191) else if b0 < 237 then (3, 128, 191) else if b0 = 237 then (3, 128, 159) else if b0 < 240 then (3, 128, 191)
  else if b0 = 240 then (4, 144, 191) else if b0 < 244 then (4, 128, 191) else if b0 = 244 then (4, 128, 143) else (0, 0, 0)
def widthN (n b0 b1 b2 b3 : Nat) : Nat :=
  if b0 < 128 then 1 else if (rowOf b0).1 = 0 then 0 else wN n b1 b2 b3 (rowOf b0).1 (rowOf b0).2.1 (rowOf b0).2.2

/-- What the width says of the decoder, and of the bytes that the decoded rune is written as. -/
def Tells (n b0 b1 b2 b3 w : Nat) : Prop :=
  (w = 0 ∧ 128 ≤ b0 ∧ Lib.decodeN n b0 b1 b2 b3 = (65533, 1)) ∨ (w = 1 ∧ b0 < 128 ∧ Lib.decodeN n b0 b1 b2 b3 = (b0, 1)) ∨
  (∃ r, w = 2 ∧ 2 ≤ n ∧ Lib.decodeN n b0 b1 b2 b3 = (r, 2) ∧ 128 ≤ r ∧ Lib.encodeRuneZ r = [(b0 : Int), b1]) ∨
  (∃ r, w = 3 ∧ 3 ≤ n ∧ Lib.decodeN n b0 b1 b2 b3 = (r, 3) ∧ 128 ≤ r ∧ Lib.encodeRuneZ r = [(b0 : Int), b1, b2]) ∨
  ∃ r, w = 4 ∧ 4 ≤ n ∧ Lib.decodeN n b0 b1 b2 b3 = (r, 4) ∧ 128 ≤ r ∧ Lib.encodeRuneZ r = [(b0 : Int), b1, b2, b3]

theorem tells_slow {n b0 b1 b2 b3 sz lo hi : Nat} (h0 : 194 ≤ b0 ∧ b0 ≤ 244) (hs : Lib.slowN n b0 b1 b2 b3 sz lo hi = Lib.decodeN n b0 b1 b2 b3) (h1 : 128 ≤ lo ∧ hi ≤ 191)
    (hc : (sz = 2 ∧ b0 < 224) ∨ (sz = 3 ∧ 224 ≤ b0 ∧ b0 < 240 ∧ (b0 = 224 → 160 ≤ lo) ∧ (b0 = 237 → hi ≤ 159)) ∨ (sz = 4 ∧ 240 ≤ b0 ∧ (b0 = 240 → 144 ≤ lo) ∧ (b0 = 244 → hi ≤ 143))) :
    Tells n b0 b1 b2 b3 (wN n b1 b2 b3 sz lo hi) := by
  unfold Tells
  rw [← hs]
  unfold wN Lib.slowN
  by_cases c1 : n < sz
  · rw [if_pos c1, if_pos c1]; exact .inl ⟨rfl, by omega, rfl⟩
  rw [if_neg c1, if_neg c1]
  by_cases c2 : b1 < lo ∨ hi < b1
  · rw [if_pos c2, if_pos c2]; exact .inl ⟨rfl, by omega, rfl⟩
  rw [if_neg c2, if_neg c2]
  by_cases c3 : sz ≤ 2
  · rw [if_pos c3, if_pos c3]
    refine .inr (.inr (.inl ⟨_, rfl, by omega, rfl, by omega, ?_⟩))
    rw [Lib.encodeRuneZ_two (by omega) (by omega)]
    simp only [List.cons.injEq, and_true]
    omega
  rw [if_neg c3, if_neg c3]
  by_cases c4 : b2 < 128 ∨ 191 < b2
  · rw [if_pos c4, if_pos c4]; exact .inl ⟨rfl, by omega, rfl⟩
  rw [if_neg c4, if_neg c4]
  by_cases c5 : sz ≤ 3
  · rw [if_pos c5, if_pos c5]
    refine .inr (.inr (.inr (.inl ⟨_, rfl, by omega, rfl, by omega, ?_⟩)))
    rw [Lib.encodeRuneZ_three (by omega)]
    simp only [List.cons.injEq, and_true]
    omega
  rw [if_neg c5, if_neg c5]
  by_cases c6 : b3 < 128 ∨ 191 < b3
  · rw [if_pos c6, if_pos c6]; exact .inl ⟨rfl, by omega, rfl⟩
  rw [if_neg c6, if_neg c6]
  refine .inr (.inr (.inr (.inr ⟨_, rfl, by omega, rfl, by omega, ?_⟩)))
  rw [Lib.encodeRuneZ_four (by omega) (by omega)]
  simp only [List.cons.injEq, and_true]
  omega

theorem decodeN_bad (n b0 b1 b2 b3 : Nat) (hb : 128 ≤ b0 ∧ b0 < 256) (h : b0 < 194 ∨ 244 < b0) : Lib.decodeN n b0 b1 b2 b3 = (65533, 1) := by
  unfold Lib.decodeN
  repeat' split
  all_goals first | rfl | (exfalso; omega)

theorem row_C2 {b0 : Nat} (h : 194 ≤ b0 ∧ b0 < 224) : rowOf b0 = (2, 128, 191) := by
  unfold rowOf
  repeat' split
  all_goals first | rfl | (exfalso; omega)
theorem row_E0 {b0 : Nat} (h : b0 = 224) : rowOf b0 = (3, 160, 191) := by
  unfold rowOf
  repeat' split
  all_goals first | rfl | (exfalso; omega)
theorem row_E1 {b0 : Nat} (h : (225 ≤ b0 ∧ b0 < 237) ∨ (238 ≤ b0 ∧ b0 < 240)) : rowOf b0 = (3, 128, 191) := by
  unfold rowOf
  repeat' split
  all_goals first | rfl | (exfalso; omega)
theorem row_ED {b0 : Nat} (h : b0 = 237) : rowOf b0 = (3, 128, 159) := by
  unfold rowOf
  repeat' split
  all_goals first | rfl | (exfalso; omega)
theorem row_F0 {b0 : Nat} (h : b0 = 240) : rowOf b0 = (4, 144, 191) := by
  unfold rowOf
  repeat' split
  all_goals first | rfl | (exfalso; omega)
theorem row_F1 {b0 : Nat} (h : 241 ≤ b0 ∧ b0 < 244) : rowOf b0 = (4, 128, 191) := by
  unfold rowOf
  repeat' split
  all_goals first | rfl | (exfalso; omega)
theorem row_F4 {b0 : Nat} (h : b0 = 244) : rowOf b0 = (4, 128, 143) := by
  unfold rowOf
  repeat' split
  all_goals first | rfl | (exfalso; omega)

set_option maxHeartbeats 800000 in
theorem tells (n b0 b1 b2 b3 : Nat) (hn : 1 ≤ n) (h0 : b0 < 256) (h1 : b1 < 256) (h2 : b2 < 256) (h3 : b3 < 256) : Tells n b0 b1 b2 b3 (widthN n b0 b1 b2 b3) := by
  unfold widthN
  by_cases c : b0 < 128
  · rw [if_pos c]
    refine .inr (.inl ⟨rfl, c, ?_⟩)
    unfold Lib.decodeN
    rw [if_pos c]
  rw [if_neg c]
  by_cases cb : b0 < 194 ∨ 244 < b0
  · have e : rowOf b0 = (0, 0, 0) := by
      unfold rowOf
      repeat' split
      all_goals first | rfl | (exfalso; omega)
    rw [e, if_pos rfl]
    exact .inl ⟨rfl, by omega, decodeN_bad n b0 b1 b2 b3 (by omega) cb⟩
  have key : ∀ sz lo hi, rowOf b0 = (sz, lo, hi) → ¬ sz = 0 → Tells n b0 b1 b2 b3 (wN n b1 b2 b3 sz lo hi) → Tells n b0 b1 b2 b3 (if (rowOf b0).1 = 0 then 0 else wN n b1 b2 b3 (rowOf b0).1 (rowOf b0).2.1 (rowOf b0).2.2) := by
    intro sz lo hi e hz h
    rw [e, if_neg hz]
    exact h
  rcases (show (194 ≤ b0 ∧ b0 < 224) ∨ b0 = 224 ∨ ((225 ≤ b0 ∧ b0 < 237) ∨ (238 ≤ b0 ∧ b0 < 240)) ∨ b0 = 237 ∨ b0 = 240 ∨ (241 ≤ b0 ∧ b0 < 244) ∨ b0 = 244 by omega) with h | h | h | h | h | h | h
  · exact key 2 128 191 (row_C2 h) (by omega) (tells_slow (by omega) (Lib.slow_C2 n b0 b1 b2 b3 hn h1 h2 h3 h) (by omega) (by omega))
  · exact key 3 160 191 (row_E0 h) (by omega) (tells_slow (by omega) (Lib.slow_E0 n b0 b1 b2 b3 hn h1 h2 h3 h) (by omega) (by omega))
  · exact key 3 128 191 (row_E1 h) (by omega) (tells_slow (by omega) (Lib.slow_E1 n b0 b1 b2 b3 hn h1 h2 h3 h) (by omega) (by omega))
  · exact key 3 128 159 (row_ED h) (by omega) (tells_slow (by omega) (Lib.slow_ED n b0 b1 b2 b3 hn h1 h2 h3 h) (by omega) (by omega))
  · exact key 4 144 191 (row_F0 h) (by omega) (tells_slow (by omega) (Lib.slow_F0 n b0 b1 b2 b3 hn h1 h2 h3 h) (by omega) (by omega))
  · exact key 4 128 191 (row_F1 h) (by omega) (tells_slow (by omega) (Lib.slow_F1 n b0 b1 b2 b3 hn h1 h2 h3 h) (by omega) (by omega))
  · exact key 4 128 143 (row_F4 h) (by omega) (tells_slow (by omega) (Lib.slow_F4 n b0 b1 b2 b3 hn h1 h2 h3 h) (by omega) (by omega))

end Go.Proofs.Qxb6627869a
