/-
  zzUTF8Width at any place of a string, and what Quote writes there.
-/
import Derived.Test.Qxb6627869aWidthA
import Derived.Test.Qxb6627869aWidthB
set_option linter.unusedVariables false
namespace Go.Proofs.Qxb6627869a
open Go.RowKit

def byteAt (s : ByteArray) (i : Nat) : Nat := (s.get! i).toNat
theorem get!_eq (s : ByteArray) (i : Nat) (h : i < s.size) : s.get! i = s[i]'h := by cases s with | mk d => exact getElem!_pos d i h
theorem byteAt_eq (s : ByteArray) (i : Nat) (h : i < s.size) : (s[i]'h).toNat = byteAt s i := by unfold byteAt; rw [get!_eq s i h]
theorem byteAt_lt (s : ByteArray) (i : Nat) : byteAt s i < 256 := by unfold byteAt; exact UInt8.toNat_lt _

set_option maxHeartbeats 6400000 in
set_option maxRecDepth 100000 in
theorem width_ascii (s : ByteArray) (pos b0 : Nat) (w : World) (hs : s.size ≤ 1048576) (hp : pos < s.size) (h0 : (s[pos]'hp).toNat = b0) (hb : b0 < 128) :
    Calls Try.prog 15 #[.string s, .int .i64 pos] w fun e w' => e = .returned (.int .i64 ((1 : Nat) : Int)) ∧ w' = w := by
  have hpi : (pos : Int) < (s.size : Int) := by omega
  go_enter Try.func15, Try.ntmps15
  go_wp2
  go_ret
  exact ⟨rfl, rfl⟩

set_option maxHeartbeats 6400000 in
set_option maxRecDepth 100000 in
theorem width_low (s : ByteArray) (pos b0 : Nat) (w : World) (hs : s.size ≤ 1048576) (hp : pos < s.size) (h0 : (s[pos]'hp).toNat = b0) (ha : 128 ≤ b0) (hb : b0 < 194) :
    Calls Try.prog 15 #[.string s, .int .i64 pos] w fun e w' => e = .returned (.int .i64 ((0 : Nat) : Int)) ∧ w' = w := by
  have hpi : (pos : Int) < (s.size : Int) := by omega
  have n224 : ((b0 : Int) == 224) = false := by rw [beq_eq_false_iff_ne]; omega
  have n237 : ((b0 : Int) == 237) = false := by rw [beq_eq_false_iff_ne]; omega
  have n238 : ((b0 : Int) == 238) = false := by rw [beq_eq_false_iff_ne]; omega
  have n239 : ((b0 : Int) == 239) = false := by rw [beq_eq_false_iff_ne]; omega
  have n240 : ((b0 : Int) == 240) = false := by rw [beq_eq_false_iff_ne]; omega
  have n244 : ((b0 : Int) == 244) = false := by rw [beq_eq_false_iff_ne]; omega
  go_enter Try.func15, Try.ntmps15
  go_wp2
  go_ret
  exact ⟨rfl, rfl⟩

set_option maxHeartbeats 6400000 in
set_option maxRecDepth 100000 in
theorem width_high (s : ByteArray) (pos b0 : Nat) (w : World) (hs : s.size ≤ 1048576) (hp : pos < s.size) (h0 : (s[pos]'hp).toNat = b0) (ha : 244 < b0) :
    Calls Try.prog 15 #[.string s, .int .i64 pos] w fun e w' => e = .returned (.int .i64 ((0 : Nat) : Int)) ∧ w' = w := by
  have hpi : (pos : Int) < (s.size : Int) := by omega
  have n224 : ((b0 : Int) == 224) = false := by rw [beq_eq_false_iff_ne]; omega
  have n237 : ((b0 : Int) == 237) = false := by rw [beq_eq_false_iff_ne]; omega
  have n238 : ((b0 : Int) == 238) = false := by rw [beq_eq_false_iff_ne]; omega
  have n239 : ((b0 : Int) == 239) = false := by rw [beq_eq_false_iff_ne]; omega
  have n240 : ((b0 : Int) == 240) = false := by rw [beq_eq_false_iff_ne]; omega
  have n244 : ((b0 : Int) == 244) = false := by rw [beq_eq_false_iff_ne]; omega
  go_enter Try.func15, Try.ntmps15
  go_wp2
  go_ret
  exact ⟨rfl, rfl⟩

theorem widthN_ascii {n b0 b1 b2 b3 : Nat} (h : b0 < 128) : widthN n b0 b1 b2 b3 = 1 := by unfold widthN; rw [if_pos h]
theorem widthN_bad {n b0 b1 b2 b3 : Nat} (h : 128 ≤ b0) (h2 : b0 < 194 ∨ 244 < b0) : widthN n b0 b1 b2 b3 = 0 := by
  unfold widthN rowOf
  repeat' split
  all_goals first | rfl | (exfalso; omega) | (exfalso; simp_all; omega) | simp_all
theorem widthN_row {n b0 b1 b2 b3 sz lo hi : Nat} (h : 128 ≤ b0) (e : rowOf b0 = (sz, lo, hi)) (hz : ¬ sz = 0) : widthN n b0 b1 b2 b3 = wN n b1 b2 b3 sz lo hi := by
  unfold widthN
  rw [if_neg (by omega), e, if_neg hz]

/-- zzUTF8Width computes the table. -/
theorem width_any (s : ByteArray) (pos : Nat) (w : World) (hs : s.size ≤ 1048576) (hp : pos < s.size) :
    Calls Try.prog 15 #[.string s, .int .i64 pos] w fun e w' => e = .returned (.int .i64 (widthN (s.size - pos) (byteAt s pos) (byteAt s (pos + 1)) (byteAt s (pos + 2)) (byteAt s (pos + 3)) : Nat)) ∧ w' = w := by
  have h0 := byteAt_eq s pos hp
  have H1 := fun h => byteAt_eq s (pos + 1) h
  have H2 := fun h => byteAt_eq s (pos + 2) h
  have H3 := fun h => byteAt_eq s (pos + 3) h
  have hlt := byteAt_lt s pos
  generalize byteAt s pos = b0 at *
  generalize byteAt s (pos + 1) = b1 at *
  generalize byteAt s (pos + 2) = b2 at *
  generalize byteAt s (pos + 3) = b3 at *
  by_cases ca : b0 < 128
  · rw [widthN_ascii ca]; exact width_ascii s pos b0 w hs hp h0 ca
  by_cases cl : b0 < 194
  · rw [widthN_bad (by omega) (.inl cl)]; exact width_low s pos b0 w hs hp h0 (by omega) cl
  by_cases ch : 244 < b0
  · rw [widthN_bad (by omega) (.inr ch)]; exact width_high s pos b0 w hs hp h0 ch
  rcases (show (194 ≤ b0 ∧ b0 < 224) ∨ b0 = 224 ∨ (225 ≤ b0 ∧ b0 < 237) ∨ b0 = 237 ∨ b0 = 238 ∨ b0 = 239 ∨ b0 = 240 ∨ (241 ≤ b0 ∧ b0 < 244) ∨ b0 = 244 by omega) with h | h | h | h | h | h | h | h | h
  · rw [widthN_row (by omega) (row_C2 h) (by omega)]; exact width_C2 s pos b0 b1 b2 b3 w hs hp h0 h.1 h.2 H1 H2 H3
  · rw [widthN_row (by omega) (row_E0 h) (by omega)]; exact width_E0 s pos b1 b2 b3 w hs hp (h0.trans h) H1 H2 H3
  · rw [widthN_row (by omega) (row_E1 (.inl h)) (by omega)]; exact width_E1 s pos b0 b1 b2 b3 w hs hp h0 h.1 h.2 H1 H2 H3
  · rw [widthN_row (by omega) (row_ED h) (by omega)]; exact width_ED s pos b1 b2 b3 w hs hp (h0.trans h) H1 H2 H3
  · rw [widthN_row (by omega) (row_E1 (.inr (by omega))) (by omega)]; exact width_EE s pos b1 b2 b3 w hs hp (h0.trans h) H1 H2 H3
  · rw [widthN_row (by omega) (row_E1 (.inr (by omega))) (by omega)]; exact width_EF s pos b1 b2 b3 w hs hp (h0.trans h) H1 H2 H3
  · rw [widthN_row (by omega) (row_F0 h) (by omega)]; exact width_F0 s pos b1 b2 b3 w hs hp (h0.trans h) H1 H2 H3
  · rw [widthN_row (by omega) (row_F1 h) (by omega)]; exact width_F1 s pos b0 b1 b2 b3 w hs hp h0 h.1 h.2 H1 H2 H3
  · rw [widthN_row (by omega) (row_F4 h) (by omega)]; exact width_F4 s pos b1 b2 b3 w hs hp (h0.trans h) H1 H2 H3

def widthAt (s : ByteArray) (pos : Nat) : Nat := widthN (s.size - pos) (byteAt s pos) (byteAt s (pos + 1)) (byteAt s (pos + 2)) (byteAt s (pos + 3))

theorem toUInt8_byteAt (s : ByteArray) (i : Nat) : ((byteAt s i : Int)).toNat.toUInt8 = s.get! i := by
  unfold byteAt
  rw [Int.toNat_natCast]
  exact UInt8.ofNat_toNat

theorem runeOut_big {r : Int} (h : 128 ≤ r) : runeOut r = Lib.encodeRune r := runeOut_plain (by omega) (by omega)

/-- What Quote writes at a place, by the width there. -/
theorem piece (s : ByteArray) (pos : Nat) (hp : pos < s.size) :
    (widthAt s pos = 0 ∧ 128 ≤ byteAt s pos ∧ runeOut (Utf8.decode s pos).1 = [239, 191, 189] ∧ (Utf8.decode s pos).2 = 1) ∨
    (widthAt s pos = 1 ∧ byteAt s pos < 128 ∧ (Utf8.decode s pos).1 = (byteAt s pos : Int) ∧ (Utf8.decode s pos).2 = 1) ∨
    (2 ≤ widthAt s pos ∧ widthAt s pos ≤ 4 ∧ pos + widthAt s pos ≤ s.size ∧ runeOut (Utf8.decode s pos).1 = (List.range (widthAt s pos)).map (fun k => s.get! (pos + k)) ∧ (Utf8.decode s pos).2 = widthAt s pos) := by
  have T := tells (s.size - pos) (byteAt s pos) (byteAt s (pos + 1)) (byteAt s (pos + 2)) (byteAt s (pos + 3)) (by omega) (byteAt_lt ..) (byteAt_lt ..) (byteAt_lt ..) (byteAt_lt ..)
  have D : Utf8.decode s pos = Lib.decodeN (s.size - pos) (byteAt s pos) (byteAt s (pos + 1)) (byteAt s (pos + 2)) (byteAt s (pos + 3)) := Lib.decode_at s pos
  unfold widthAt
  rcases T with ⟨e, hb, d⟩ | ⟨e, hb, d⟩ | ⟨r, e, hn, d, hr, z⟩ | ⟨r, e, hn, d, hr, z⟩ | ⟨r, e, hn, d, hr, z⟩
  · refine .inl ⟨e, hb, ?_, ?_⟩
    · rw [D, d]; rfl
    · rw [D, d]
  · exact .inr (.inl ⟨e, hb, by rw [D, d], by rw [D, d]⟩)
  · rw [e]
    refine .inr (.inr ⟨by omega, by omega, by omega, ?_, by rw [D, d]⟩)
    rw [D, d, runeOut_big (show (128 : Int) ≤ (r : Int) by omega), Lib.encodeRune, z]
    simp only [List.map_cons, List.map_nil, toUInt8_byteAt]
    rfl
  · rw [e]
    refine .inr (.inr ⟨by omega, by omega, by omega, ?_, by rw [D, d]⟩)
    rw [D, d, runeOut_big (show (128 : Int) ≤ (r : Int) by omega), Lib.encodeRune, z]
    simp only [List.map_cons, List.map_nil, toUInt8_byteAt]
    rfl
  · rw [e]
    refine .inr (.inr ⟨by omega, by omega, by omega, ?_, by rw [D, d]⟩)
    rw [D, d, runeOut_big (show (128 : Int) ≤ (r : Int) by omega), Lib.encodeRune, z]
    simp only [List.map_cons, List.map_nil, toUInt8_byteAt]
    rfl

end Go.Proofs.Qxb6627869a
