/-
  zzSignMag, Sign, Bits.
-/
import Derived.Test.Qxb6627829aSum
import Derived.Laws.BitsAllLaws
namespace Go.Proofs.Qxb6627829a
open Go.RowKit

theorem xor_ones (n : Nat) (h : n < 18446744073709551616) : 18446744073709551615 ^^^ n = 18446744073709551615 - n := by
  have e1 : (BitVec.allOnes 64 ^^^ BitVec.ofNat 64 n).toNat = 18446744073709551615 ^^^ n := by
    rw [BitVec.toNat_xor, BitVec.toNat_allOnes, BitVec.toNat_ofNat, Nat.mod_eq_of_lt (by simpa using h)]
  rw [← e1, BitVec.allOnes_xor, BitVec.toNat_not, BitVec.toNat_ofNat, Nat.mod_eq_of_lt (by simpa using h)]
theorem not64 (L : Int) (h1 : 0 ≤ L) (h2 : L ≤ 18446744073709551615) : bits .xor .u64 (if IntKind.u64.signed = true then -1 else IntKind.u64.max) L = 18446744073709551615 - L := by
  have e : (if IntKind.u64.signed = true then -1 else IntKind.u64.max) = (18446744073709551615 : Int) := by decide
  rw [e, u64_xor _ _ (by omega) (by omega) h1 (by omega)]
  obtain ⟨n, rfl⟩ := Int.eq_ofNat_of_zero_le h1
  rw [Int.toNat_natCast, show (18446744073709551615 : Int).toNat = 18446744073709551615 from rfl, xor_ones n (by omega)]
  omega

theorem not64' (L : Int) (h1 : 0 ≤ L) (h2 : L ≤ 18446744073709551615) : bits .xor .u64 IntKind.u64.max L = 18446744073709551615 - L := not64 L h1 h2

def TripleIf (p : Int → Int → Int → Prop) (e : Ending) : Prop := ∃ s h l, e = .returned (.tuple #[.int .i64 s, .int .u64 h, .int .u64 l]) ∧ p s h l
/-- The sign and the magnitude of T in two words. -/
def MagIs (T s h l : Int) : Prop := s = (if T < 0 then -1 else if T = 0 then 0 else 1) ∧ 0 ≤ h ∧ h ≤ 18446744073709551615 ∧ 0 ≤ l ∧ l ≤ 18446744073709551615 ∧ (T.natAbs : Int) = l + 18446744073709551616 * h

set_option maxHeartbeats 400000 in
theorem sm_neg (H L T : Int) (w : World) (hs : SumIs H L T) (hT : T < 0) (hT2 : -170141183460469231731687303715884105728 < T) :
    Calls Try.prog 9 #[.int .u64 H, .int .u64 L] w fun e w' => TripleIf (MagIs T) e ∧ w' = w := by
  obtain ⟨h1, h2, h3, h4⟩ := hs.word
  have hH : 9223372036854775808 ≤ H := by obtain ⟨e1, e2⟩ := hs; omega
  have hb : (H / 9223372036854775808 == 1) = true := by rw [beq_iff_eq]; omega
  have HS : Hid (SumIs H L T) := hs
  have HB : Hid ((0 ≤ H ∧ H ≤ 18446744073709551615) ∧ 0 ≤ L ∧ L ≤ 18446744073709551615) := ⟨⟨h1, h2⟩, h3, h4⟩
  have HT : Hid (T < 0 ∧ -170141183460469231731687303715884105728 < T) := ⟨hT, hT2⟩
  clear hs h1 h2 h3 h4 hH hT hT2
  go_enter Try.func9, Try.ntmps9
  go_wp2
  · go_ret3
    have ht : (IntKind.u64.wrap (bits BinOp.xor IntKind.u64 (if IntKind.u64.signed = true then -1 else IntKind.u64.max) L + 1) == 0) = true := by assumption
    refine ⟨⟨_, _, _, rfl, ?_⟩, rfl⟩
    obtain ⟨b1, b2⟩ := HB.out
    obtain ⟨e1, e2⟩ := HS.out
    obtain ⟨t1, t2⟩ := HT.out
    rw [not64 L b2.1 b2.2] at ht
    rw [not64' L b2.1 b2.2, not64' H b1.1 b1.2]
    rw [beq_iff_eq, IntKind.wrap_u64] at ht
    unfold MagIs
    simp only [IntKind.wrap_u64]
    rw [if_pos t1]
    omega
  · go_ret3
    have ht : (IntKind.u64.wrap (bits BinOp.xor IntKind.u64 (if IntKind.u64.signed = true then -1 else IntKind.u64.max) L + 1) == 0) = false := by assumption
    refine ⟨⟨_, _, _, rfl, ?_⟩, rfl⟩
    obtain ⟨b1, b2⟩ := HB.out
    obtain ⟨e1, e2⟩ := HS.out
    obtain ⟨t1, t2⟩ := HT.out
    rw [not64 L b2.1 b2.2] at ht
    rw [not64' L b2.1 b2.2, not64' H b1.1 b1.2]
    rw [beq_eq_false_iff_ne, IntKind.wrap_u64] at ht
    unfold MagIs
    simp only [IntKind.wrap_u64]
    rw [if_pos t1]
    omega

set_option maxHeartbeats 400000 in
theorem sm_zero (w : World) : Calls Try.prog 9 #[.int .u64 0, .int .u64 0] w fun e w' => TripleIf (MagIs 0) e ∧ w' = w := by
  go_enter Try.func9, Try.ntmps9
  go_wp2
  go_ret3
  exact ⟨⟨_, _, _, rfl, by unfold MagIs; simp⟩, rfl⟩

set_option maxHeartbeats 400000 in
theorem sm_pos (H L T : Int) (w : World) (hs : SumIs H L T) (hT : 0 < T) (hT2 : T < 170141183460469231731687303715884105728) :
    Calls Try.prog 9 #[.int .u64 H, .int .u64 L] w fun e w' => TripleIf (MagIs T) e ∧ w' = w := by
  have HM : Hid (MagIs T 1 H L) := by
    obtain ⟨e1, e2⟩ := hs
    refine ⟨by rw [if_neg (by omega), if_neg (by omega)], ?_⟩
    omega
  have hb : (H / 9223372036854775808 == 1) = false := by obtain ⟨e1, e2⟩ := hs; rw [beq_eq_false_iff_ne]; omega
  by_cases h0 : H = 0
  · have b0 : (H == 0) = true := by simp [h0]
    have b1 : (L == 0) = false := by obtain ⟨e1, e2⟩ := hs; rw [beq_eq_false_iff_ne]; omega
    clear h0 hs hT hT2
    go_enter Try.func9, Try.ntmps9
    go_wp2
    go_ret3
    exact ⟨⟨_, _, _, rfl, HM.out⟩, rfl⟩
  · have b0 : (H == 0) = false := by simp [h0]
    clear h0 hs hT hT2
    go_enter Try.func9, Try.ntmps9
    go_wp2
    go_ret3
    exact ⟨⟨_, _, _, rfl, HM.out⟩, rfl⟩

theorem signMag_any (H L T : Int) (w : World) (hs : SumIs H L T) (h1 : -170141183460469231731687303715884105728 < T) (h2 : T < 170141183460469231731687303715884105728) :
    Calls Try.prog 9 #[.int .u64 H, .int .u64 L] w fun e w' => TripleIf (MagIs T) e ∧ w' = w := by
  rcases (show T < 0 ∨ T = 0 ∨ 0 < T by omega) with h | rfl | h
  · exact sm_neg H L T w hs h h1
  · obtain ⟨e1, e2⟩ := hs
    obtain rfl : L = 0 := by omega
    obtain rfl : H = 0 := by omega
    exact sm_zero w
  · exact sm_pos H L T w hs h h2

set_option maxHeartbeats 400000 in
theorem sign_neg (p : Nat) (neg : Bool) (ao : Option Addr) (n c : Nat) (w : World) (h0 : w.cell? ⟨p, 0, none⟩ = some (.bool neg)) (h1 : w.cell? ⟨p, 1, none⟩ = some (.slice ao n c)) (hn : 0 < n) :
    Calls Try.prog 10 #[.pointer (some ⟨p, 0, none⟩)] w fun e w' => e = .returned (.int .i64 (if neg = true then -1 else 1)) ∧ w' = w := by
  have hb : ((n : Int) == 0) = false := by rw [beq_eq_false_iff_ne]; omega
  cases neg <;> go_enter Try.func10, Try.ntmps10 <;> go_wp2 <;> go_ret <;> exact ⟨rfl, rfl⟩

set_option maxHeartbeats 400000 in
theorem sign_zero (p : Nat) (ao : Option Addr) (c : Nat) (w : World) (h1 : w.cell? ⟨p, 1, none⟩ = some (.slice ao 0 c)) :
    Calls Try.prog 10 #[.pointer (some ⟨p, 0, none⟩)] w fun e w' => e = .returned (.int .i64 0) ∧ w' = w := by
  go_enter Try.func10, Try.ntmps10
  go_wp2
  go_ret
  exact ⟨rfl, rfl⟩

set_option maxHeartbeats 400000 in
theorem bits_any (p : Nat) (ao : Option Addr) (n c : Nat) (w : World) (h1 : w.cell? ⟨p, 1, none⟩ = some (.slice ao n c)) :
    Calls Try.prog 11 #[.pointer (some ⟨p, 0, none⟩)] w fun e w' => e = .returned (.slice ao n c) ∧ w' = w := by
  go_enter Try.func11, Try.ntmps11
  go_wp2
  go_ret
  exact ⟨rfl, rfl⟩

end Go.Proofs.Qxb6627829a
