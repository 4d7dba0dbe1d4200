/-
  Contracts of the small functions: stringEnd, sameBytes, the two size guards.
-/
import Derived.Test.Qxb6627783aRows
import Derived.Test.Qxb6627783aPlain2
import Derived.WalkKit
import Derived.WalkSpells
import Derived.WalkLawsBesides
import Derived.Deep.QuietTactic
import Derived.BigQuiet
import Derived.Handy
namespace Go.Proofs.Qxb6627783a
open Go.RowKit

/-- The slice value '.slice a n _' shows the bytes zs in the world w, in a block below B. -/
def ViewB (B : Nat) (w : World) (a : Option Addr) (n : Nat) (zs : List Int) : Prop :=
  zs.length = n ∧ (∀ i, 0 ≤ zs.getD i 0 ∧ zs.getD i 0 ≤ 255) ∧
  (n = 0 ∨ ∃ b off, a = some ⟨b, off, none⟩ ∧ b < B ∧ ∀ i, i < n → w.cell? ⟨b, off + i, none⟩ = some (.int .u8 (zs.getD i 0)))

theorem ViewB.below {B B' : Nat} {w w' : World} {a : Option Addr} {n : Nat} {zs : List Int} (h : ViewB B w a n zs) (hb : Below B' w w') (hB : B ≤ B') : ViewB B w' a n zs := by
  obtain ⟨h1, h0, h2⟩ := h
  refine ⟨h1, h0, ?_⟩
  rcases h2 with h2 | ⟨b, off, h2, hlt, h3⟩
  · exact .inl h2
  · exact .inr ⟨b, off, h2, hlt, fun i hi => (hb.cell (p := ⟨b, off + i, none⟩) (by simp; omega)).trans (h3 i hi)⟩
theorem ViewB.mono {B B' : Nat} {w : World} {a : Option Addr} {n : Nat} {zs : List Int} (h : ViewB B w a n zs) (hB : B ≤ B') : ViewB B' w a n zs := by
  obtain ⟨h1, h0, h2⟩ := h
  refine ⟨h1, h0, ?_⟩
  rcases h2 with h2 | ⟨b, off, h2, hlt, h3⟩
  · exact .inl h2
  · exact .inr ⟨b, off, h2, by omega, h3⟩
theorem ViewB.drewN {B : Nat} {w : World} {a : Option Addr} {n : Nat} {zs : List Int} (h : ViewB B w a n zs) (m : Nat) : ViewB B (w.drewN m) a n zs := by
  obtain ⟨h1, h0, h2⟩ := h
  refine ⟨h1, h0, ?_⟩
  rcases h2 with h2 | ⟨b, off, h2, hlt, h3⟩
  · exact .inl h2
  · exact .inr ⟨b, off, h2, hlt, fun i hi => by simpa using h3 i hi⟩

/-! ### the size guards -/
def BoolIf (p : Prop) (e : Ending) : Prop := ∃ r, e = .returned (.bool r) ∧ (r = true → p)
theorem BoolIf.no {p : Prop} : BoolIf p (.returned (.bool false)) := ⟨false, rfl, fun h => by cases h⟩
theorem BoolIf.yes {p : Prop} (h : p) : BoolIf p (.returned (.bool true)) := ⟨true, rfl, fun _ => h⟩

set_option maxHeartbeats 400000 in
theorem bytes5 (a : Option Addr) (n c : Nat) (d : Int) (w : World) (hn : n ≤ 9223372036854775807) :
    Calls Try.prog 5 #[.slice a n c, .int .i64 d] w fun e w' => BoolIf (n ≤ 1048576) e ∧ w' = w := by
  by_cases h : n ≤ 1048576
  · go_enter Try.func5, Try.ntmps5
    go_wp2
    go_ret
    exact ⟨BoolIf.yes h, rfl⟩
  · go_enter Try.func5, Try.ntmps5
    go_wp2
    go_ret
    exact ⟨BoolIf.no, rfl⟩
set_option maxHeartbeats 400000 in
theorem bytes9 (a : Option Addr) (n c : Nat) (d e : Int) (w : World) (hn : n ≤ 9223372036854775807) :
    Calls Try.prog 9 #[.slice a n c, .int .i64 d, .int .i64 e] w fun e w' => BoolIf (n ≤ 1048576) e ∧ w' = w := by
  by_cases h : n ≤ 1048576
  · go_enter Try.func9, Try.ntmps9
    go_wp2
    go_ret
    exact ⟨BoolIf.yes h, rfl⟩
  · go_enter Try.func9, Try.ntmps9
    go_wp2
    go_ret
    exact ⟨BoolIf.no, rfl⟩

/-! ### stringEnd -/
def TwoIf (p : Nat → Prop) (e : Ending) : Prop := ∃ (E : Nat) (q : Bool), e = .returned (.tuple #[.int .i64 E, .bool q]) ∧ p E
theorem TwoIf.mk' {p : Nat → Prop} {E : Nat} {x : Int} {q : Bool} (hx : x = E) (h : p E) : TwoIf p (.returned (.tuple #[.int .i64 x, .bool q])) := ⟨E, q, by rw [hx], h⟩

set_option maxHeartbeats 800000 in
theorem stringEnd_any (b off n c i l : Nat) (zs : List Int) (w : World) (hn : n ≤ 1048576) (hz : zs.length = n) (hr : ∀ i, 0 ≤ zs.getD i 0 ∧ zs.getD i 0 ≤ 255)
    (hc : ∀ i, i < n → w.cell? ⟨b, off + i, none⟩ = some (.int .u8 (zs.getD i 0))) (hi : i < n) (hs : S zs i = ⟨l, false, false⟩) (hq : zs.getD i 0 = 34) :
    Calls Try.prog 13 #[.slice (some ⟨b, off, none⟩) n c, .int .i64 i] w fun e w' => TwoIf (fun E => StrEnd zs i E l) e ∧ w' = w := by
  have H0 := strAt_start (by omega) hs hq
  have HR : Hid (∀ i, 0 ≤ zs.getD i 0 ∧ zs.getD i 0 ≤ 255) := hr
  have HC : Hid (∀ i, i < n → w.cell? ⟨b, off + i, none⟩ = some (.int .u8 (zs.getD i 0))) := hc
  have HZ : Hid (zs.length = n) := hz
  have HA : Hid (StrAt zs i (i + 1) l) := H0
  clear hr hc hz hs hq H0
  go_enter Try.func13, Try.ntmps13
  go_wp2
  go_loop [1, 6] (fun j q => ∃ (k : Nat) (r : Bool), (k : Int) ≤ n + 1 ∧ j = .int .i64 k ∧ q = .bool r ∧ Hid (StrAt zs i k l)) (fun j _ => n + 1 - (intOf j).toNat)
  case atStart => exact ⟨i + 1, false, by omega, by go_num, rfl, HA⟩
  case round =>
    obtain ⟨k, r, hk, rfl, rfl, HK⟩ := hrel
    by_cases hlt : k < n
    · obtain ⟨z, ez⟩ : ∃ z, z = zs.getD k 0 := ⟨_, rfl⟩
      have g1 := HC.out k hlt
      have g2 := HR.out k
      rw [← ez] at g1 g2
      obtain ⟨z0, z1⟩ := g2
      have EZ : Hid (z = zs.getD k 0) := ez
      clear ez
      have hki : (k : Int) < (n : Int) := by omega
      by_cases h34 : z = 34
      · have hb1 : (z != 34) = false := by simp [h34]
        have HE : Hid (StrEnd zs i (k + 1) l) := strEnd_quote HK.out (by rw [HZ.out]; exact hlt) (by rw [← EZ.out]; exact h34)
        clear h34
        go_wp2
        go_ret2
        exact ⟨TwoIf.mk' (by omega) HE.out, rfl⟩
      · have hb1 : (z != 34) = true := by simp [h34]
        by_cases h92 : z = 92
        · have hb2 : (z == 92) = true := by simp [h92]
          have HE : Hid (StrAt zs i (k + 2) l) := strAt_esc HK.out (by rw [HZ.out]; exact hlt) (by rw [← EZ.out]; exact h92)
          clear h34 h92
          go_wp2
          go_round
          case rel => exact ⟨k + 2, true, by omega, by go_num, rfl, HE⟩
          case measure => simp [intOf]; omega
        · have hb2 : (z == 92) = false := by simp [h92]
          have HE : Hid (StrAt zs i (k + 1) l) := strAt_plain HK.out (by rw [HZ.out]; exact hlt) (by rw [← EZ.out]; exact h34) (by rw [← EZ.out]; exact h92)
          clear h34 h92
          go_wp2
          go_round
          case rel => exact ⟨k + 1, r, by omega, by go_num, rfl, HE⟩
          case measure => simp [intOf]; omega
    · have hf : decide ((k : Int) < (n : Int)) = false := decide_eq_false (by omega)
      have HE : Hid (StrEnd zs i (k + 1) l) := strEnd_out HK.out (by rw [HZ.out]; omega)
      go_wp2
      go_ret2
      exact ⟨TwoIf.mk' (by omega) HE.out, rfl⟩

/-! ### sameBytes: both hold the same -/
set_option maxHeartbeats 400000 in
theorem same_empty (a1 a2 : Option Addr) (c1 c2 : Nat) (w : World) :
    Calls Try.prog 8 #[.slice a1 0 c1, .slice a2 0 c2] w fun e w' => e = .returned (.bool true) ∧ ∃ m, w' = w.drewN m := by
  go_enter Try.func8, Try.ntmps8
  go_wp2
  refine wp_loop_rounds 1 ?_
  rw [rounds_succ]
  go_wp2
  go_ret
  exact ⟨rfl, 0, rfl⟩

set_option maxHeartbeats 800000 in
theorem same_both (b1 o1 b2 o2 : Nat) (n c1 c2 : Nat) (zs : List Int) (w : World) (hm : n ≤ 1048576)
    (e1 : ∀ i, i < n → w.cell? ⟨b1, o1 + i, none⟩ = some (.int .u8 (zs.getD i 0)))
    (e2 : ∀ i, i < n → w.cell? ⟨b2, o2 + i, none⟩ = some (.int .u8 (zs.getD i 0))) :
    Calls Try.prog 8 #[.slice (some ⟨b1, o1, none⟩) n c1, .slice (some ⟨b2, o2, none⟩) n c2] w fun e w' => e = .returned (.bool true) ∧ ∃ m, w' = w.drewN m := by
  go_enter Try.func8, Try.ntmps8
  go_wp2
  go_loopw [5] (fun i wr => ∃ k m : Nat, k ≤ n ∧ i = .int .i64 k ∧ wr = w.drewN m) (fun i _ => n - (intOf i).toNat)
  case atStart => exact ⟨0, 0, Nat.zero_le _, rfl, rfl⟩
  case round =>
    obtain ⟨k, m, hk, rfl, rfl⟩ := hrel
    by_cases hlt : k < n
    · obtain ⟨z, hz⟩ : ∃ s, s = zs.getD k 0 := ⟨_, rfl⟩
      have g1 := e1 k hlt
      have g2 := e2 k hlt
      rw [← hz] at g1 g2
      clear hz e1 e2
      have hlt1 : (k : Int) < (n : Int) := by omega
      go_wp2
      go_quiet (fail)
      go_wp2
      go_roundw
      case rel => exact ⟨k + 1, _, by omega, by go_num, rfl⟩
      case measure => simp [intOf]; omega
    · go_wp2
      go_ret
      exact ⟨rfl, _, rfl⟩

theorem same_any {B1 B2 : Nat} (a1 a2 : Option Addr) (n c1 c2 : Nat) (zs : List Int) (w : World) (hm : n ≤ 1048576) (h1 : ViewB B1 w a1 n zs) (h2 : ViewB B2 w a2 n zs) :
    Calls Try.prog 8 #[.slice a1 n c1, .slice a2 n c2] w fun e w' => e = .returned (.bool true) ∧ ∃ m, w' = w.drewN m := by
  rcases h1 with ⟨l1, _, rfl | ⟨b1, o1, rfl, _, e1⟩⟩
  · exact same_empty a1 a2 c1 c2 w
  · rcases h2 with ⟨l2, _, rfl | ⟨b2, o2, rfl, _, e2⟩⟩
    · exact same_empty _ a2 c1 c2 w
    · exact same_both b1 o1 b2 o2 n c1 c2 zs w hm e1 e2

end Go.Proofs.Qxb6627783a
