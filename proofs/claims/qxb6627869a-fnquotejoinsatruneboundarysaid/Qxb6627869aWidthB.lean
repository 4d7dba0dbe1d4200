/-
  zzUTF8Width, a class of lead bytes at a time (four bytes).
-/
import Derived.Test.Qxb6627869aPlain
set_option linter.unusedVariables false
namespace Go.Proofs.Qxb6627869a
open Go.RowKit

set_option maxHeartbeats 6400000 in
set_option maxRecDepth 100000 in
theorem width_F0 (s : ByteArray) (pos b1 b2 b3 : Nat) (w : World) (hs : s.size ≤ 1048576) (hp : pos < s.size) (h0 : (s[pos]'hp).toNat = 240) 
    (H1 : ∀ h : pos + 1 < s.size, (s[pos + 1]'h).toNat = b1) (H2 : ∀ h : pos + 2 < s.size, (s[pos + 2]'h).toNat = b2) (H3 : ∀ h : pos + 3 < s.size, (s[pos + 3]'h).toNat = b3) :
    Calls Try.prog 15 #[.string s, .int .i64 pos] w fun e w' => e = .returned (.int .i64 (wN (s.size - pos) b1 b2 b3 4 144 191 : Nat)) ∧ w' = w := by
  have hpi : (pos : Int) < (s.size : Int) := by omega
  have K1 : Hid (∀ h : pos + 1 < s.size, (s[pos + 1]'h).toNat = b1) := H1
  have K2 : Hid (∀ h : pos + 2 < s.size, (s[pos + 2]'h).toNat = b2) := H2
  have K3 : Hid (∀ h : pos + 3 < s.size, (s[pos + 3]'h).toNat = b3) := H3
  clear H1 H2 H3
  by_cases hn : s.size - pos < 4
  · have hni : (s.size : Int) - pos < 4 := by omega
    have HW : Hid (wN (s.size - pos) b1 b2 b3 4 144 191 = 0) := by
      unfold Hid wN
      repeat' split
      all_goals first | rfl | (exfalso; omega)
    rw [HW.out]
    go_enter Try.func15, Try.ntmps15
    go_wp2
    go_ret
    exact ⟨rfl, rfl⟩
  have hni : (4 : Int) ≤ (s.size : Int) - pos := by omega
  have l1 : pos + 1 < s.size := by omega
  have g1 := K1.out l1
  by_cases c1 : b1 < 144
  · have c1i : (b1 : Int) < 144 := by omega
    have HW : Hid (wN (s.size - pos) b1 b2 b3 4 144 191 = 0) := by
      unfold Hid wN
      repeat' split
      all_goals first | rfl | (exfalso; omega)
    rw [HW.out]
    go_enter Try.func15, Try.ntmps15
    go_wp2
    go_ret
    exact ⟨rfl, rfl⟩
  have c1i : (144 : Int) ≤ (b1 : Int) := by omega
  by_cases c2 : 191 < b1
  · have c2i : (191 : Int) < (b1 : Int) := by omega
    have HW : Hid (wN (s.size - pos) b1 b2 b3 4 144 191 = 0) := by
      unfold Hid wN
      repeat' split
      all_goals first | rfl | (exfalso; omega)
    rw [HW.out]
    go_enter Try.func15, Try.ntmps15
    go_wp2
    go_ret
    exact ⟨rfl, rfl⟩
  have c2i : (b1 : Int) ≤ 191 := by omega
  have l2 : pos + 2 < s.size := by omega
  have g2 := K2.out l2
  by_cases c3 : b2 < 128
  · have c3i : (b2 : Int) < 128 := by omega
    have HW : Hid (wN (s.size - pos) b1 b2 b3 4 144 191 = 0) := by
      unfold Hid wN
      repeat' split
      all_goals first | rfl | (exfalso; omega)
    rw [HW.out]
    go_enter Try.func15, Try.ntmps15
    go_wp2
    refine wp_loop_rounds 1 ?_
    rw [rounds_succ]
    go_wp2
    go_ret
    exact ⟨rfl, rfl⟩
  have c3i : (128 : Int) ≤ (b2 : Int) := by omega
  by_cases c4 : 191 < b2
  · have c4i : (191 : Int) < (b2 : Int) := by omega
    have HW : Hid (wN (s.size - pos) b1 b2 b3 4 144 191 = 0) := by
      unfold Hid wN
      repeat' split
      all_goals first | rfl | (exfalso; omega)
    rw [HW.out]
    go_enter Try.func15, Try.ntmps15
    go_wp2
    refine wp_loop_rounds 1 ?_
    rw [rounds_succ]
    go_wp2
    go_ret
    exact ⟨rfl, rfl⟩
  have c4i : (b2 : Int) ≤ 191 := by omega
  have l3 : pos + 3 < s.size := by omega
  have g3 := K3.out l3
  by_cases c5 : b3 < 128
  · have c5i : (b3 : Int) < 128 := by omega
    have HW : Hid (wN (s.size - pos) b1 b2 b3 4 144 191 = 0) := by
      unfold Hid wN
      repeat' split
      all_goals first | rfl | (exfalso; omega)
    rw [HW.out]
    go_enter Try.func15, Try.ntmps15
    go_wp2
    refine wp_loop_rounds 2 ?_
    rw [rounds_succ]
    go_wp2
    rw [rounds_succ]
    go_wp2
    go_ret
    exact ⟨rfl, rfl⟩
  have c5i : (128 : Int) ≤ (b3 : Int) := by omega
  by_cases c6 : 191 < b3
  · have c6i : (191 : Int) < (b3 : Int) := by omega
    have HW : Hid (wN (s.size - pos) b1 b2 b3 4 144 191 = 0) := by
      unfold Hid wN
      repeat' split
      all_goals first | rfl | (exfalso; omega)
    rw [HW.out]
    go_enter Try.func15, Try.ntmps15
    go_wp2
    refine wp_loop_rounds 2 ?_
    rw [rounds_succ]
    go_wp2
    rw [rounds_succ]
    go_wp2
    go_ret
    exact ⟨rfl, rfl⟩
  have c6i : (b3 : Int) ≤ 191 := by omega
  have HW : Hid (wN (s.size - pos) b1 b2 b3 4 144 191 = 4) := by
    unfold Hid wN
    repeat' split
    all_goals first | rfl | (exfalso; omega)
  rw [HW.out]
  go_enter Try.func15, Try.ntmps15
  go_wp2
  refine wp_loop_rounds 3 ?_
  rw [rounds_succ]
  go_wp2
  rw [rounds_succ]
  go_wp2
  rw [rounds_succ]
  go_wp2
  go_ret
  exact ⟨rfl, rfl⟩

set_option maxHeartbeats 6400000 in
set_option maxRecDepth 100000 in
theorem width_F1 (s : ByteArray) (pos b0 b1 b2 b3 : Nat) (w : World) (hs : s.size ≤ 1048576) (hp : pos < s.size) (h0 : (s[pos]'hp).toNat = b0) (ha : 241 ≤ b0) (hb : b0 < 244)
    (H1 : ∀ h : pos + 1 < s.size, (s[pos + 1]'h).toNat = b1) (H2 : ∀ h : pos + 2 < s.size, (s[pos + 2]'h).toNat = b2) (H3 : ∀ h : pos + 3 < s.size, (s[pos + 3]'h).toNat = b3) :
    Calls Try.prog 15 #[.string s, .int .i64 pos] w fun e w' => e = .returned (.int .i64 (wN (s.size - pos) b1 b2 b3 4 128 191 : Nat)) ∧ w' = w := by
  have hpi : (pos : Int) < (s.size : Int) := by omega
  have n224 : ((b0 : Int) == 224) = false := by rw [beq_eq_false_iff_ne]; omega
  have n237 : ((b0 : Int) == 237) = false := by rw [beq_eq_false_iff_ne]; omega
  have n238 : ((b0 : Int) == 238) = false := by rw [beq_eq_false_iff_ne]; omega
  have n239 : ((b0 : Int) == 239) = false := by rw [beq_eq_false_iff_ne]; omega
  have n240 : ((b0 : Int) == 240) = false := by rw [beq_eq_false_iff_ne]; omega
  have K1 : Hid (∀ h : pos + 1 < s.size, (s[pos + 1]'h).toNat = b1) := H1
  have K2 : Hid (∀ h : pos + 2 < s.size, (s[pos + 2]'h).toNat = b2) := H2
  have K3 : Hid (∀ h : pos + 3 < s.size, (s[pos + 3]'h).toNat = b3) := H3
  clear H1 H2 H3
  by_cases hn : s.size - pos < 4
  · have hni : (s.size : Int) - pos < 4 := by omega
    have HW : Hid (wN (s.size - pos) b1 b2 b3 4 128 191 = 0) := by
      unfold Hid wN
      repeat' split
      all_goals first | rfl | (exfalso; omega)
    rw [HW.out]
    go_enter Try.func15, Try.ntmps15
    go_wp2
    go_ret
    exact ⟨rfl, rfl⟩
  have hni : (4 : Int) ≤ (s.size : Int) - pos := by omega
  have l1 : pos + 1 < s.size := by omega
  have g1 := K1.out l1
  by_cases c1 : b1 < 128
  · have c1i : (b1 : Int) < 128 := by omega
    have HW : Hid (wN (s.size - pos) b1 b2 b3 4 128 191 = 0) := by
      unfold Hid wN
      repeat' split
      all_goals first | rfl | (exfalso; omega)
    rw [HW.out]
    go_enter Try.func15, Try.ntmps15
    go_wp2
    go_ret
    exact ⟨rfl, rfl⟩
  have c1i : (128 : Int) ≤ (b1 : Int) := by omega
  by_cases c2 : 191 < b1
  · have c2i : (191 : Int) < (b1 : Int) := by omega
    have HW : Hid (wN (s.size - pos) b1 b2 b3 4 128 191 = 0) := by
      unfold Hid wN
      repeat' split
      all_goals first | rfl | (exfalso; omega)
    rw [HW.out]
    go_enter Try.func15, Try.ntmps15
    go_wp2
    go_ret
    exact ⟨rfl, rfl⟩
  have c2i : (b1 : Int) ≤ 191 := by omega
  have l2 : pos + 2 < s.size := by omega
  have g2 := K2.out l2
  by_cases c3 : b2 < 128
  · have c3i : (b2 : Int) < 128 := by omega
    have HW : Hid (wN (s.size - pos) b1 b2 b3 4 128 191 = 0) := by
      unfold Hid wN
      repeat' split
      all_goals first | rfl | (exfalso; omega)
    rw [HW.out]
    go_enter Try.func15, Try.ntmps15
    go_wp2
    refine wp_loop_rounds 1 ?_
    rw [rounds_succ]
    go_wp2
    go_ret
    exact ⟨rfl, rfl⟩
  have c3i : (128 : Int) ≤ (b2 : Int) := by omega
  by_cases c4 : 191 < b2
  · have c4i : (191 : Int) < (b2 : Int) := by omega
    have HW : Hid (wN (s.size - pos) b1 b2 b3 4 128 191 = 0) := by
      unfold Hid wN
      repeat' split
      all_goals first | rfl | (exfalso; omega)
    rw [HW.out]
    go_enter Try.func15, Try.ntmps15
    go_wp2
    refine wp_loop_rounds 1 ?_
    rw [rounds_succ]
    go_wp2
    go_ret
    exact ⟨rfl, rfl⟩
  have c4i : (b2 : Int) ≤ 191 := by omega
  have l3 : pos + 3 < s.size := by omega
  have g3 := K3.out l3
  by_cases c5 : b3 < 128
  · have c5i : (b3 : Int) < 128 := by omega
    have HW : Hid (wN (s.size - pos) b1 b2 b3 4 128 191 = 0) := by
      unfold Hid wN
      repeat' split
      all_goals first | rfl | (exfalso; omega)
    rw [HW.out]
    go_enter Try.func15, Try.ntmps15
    go_wp2
    refine wp_loop_rounds 2 ?_
    rw [rounds_succ]
    go_wp2
    rw [rounds_succ]
    go_wp2
    go_ret
    exact ⟨rfl, rfl⟩
  have c5i : (128 : Int) ≤ (b3 : Int) := by omega
  by_cases c6 : 191 < b3
  · have c6i : (191 : Int) < (b3 : Int) := by omega
    have HW : Hid (wN (s.size - pos) b1 b2 b3 4 128 191 = 0) := by
      unfold Hid wN
      repeat' split
      all_goals first | rfl | (exfalso; omega)
    rw [HW.out]
    go_enter Try.func15, Try.ntmps15
    go_wp2
    refine wp_loop_rounds 2 ?_
    rw [rounds_succ]
    go_wp2
    rw [rounds_succ]
    go_wp2
    go_ret
    exact ⟨rfl, rfl⟩
  have c6i : (b3 : Int) ≤ 191 := by omega
  have HW : Hid (wN (s.size - pos) b1 b2 b3 4 128 191 = 4) := by
    unfold Hid wN
    repeat' split
    all_goals first | rfl | (exfalso; omega)
  rw [HW.out]
  go_enter Try.func15, Try.ntmps15
  go_wp2
  refine wp_loop_rounds 3 ?_
  rw [rounds_succ]
  go_wp2
  rw [rounds_succ]
  go_wp2
  rw [rounds_succ]
  go_wp2
  go_ret
  exact ⟨rfl, rfl⟩

set_option maxHeartbeats 6400000 in
set_option maxRecDepth 100000 in
theorem width_F4 (s : ByteArray) (pos b1 b2 b3 : Nat) (w : World) (hs : s.size ≤ 1048576) (hp : pos < s.size) (h0 : (s[pos]'hp).toNat = 244) 
    (H1 : ∀ h : pos + 1 < s.size, (s[pos + 1]'h).toNat = b1) (H2 : ∀ h : pos + 2 < s.size, (s[pos + 2]'h).toNat = b2) (H3 : ∀ h : pos + 3 < s.size, (s[pos + 3]'h).toNat = b3) :
    Calls Try.prog 15 #[.string s, .int .i64 pos] w fun e w' => e = .returned (.int .i64 (wN (s.size - pos) b1 b2 b3 4 128 143 : Nat)) ∧ w' = w := by
  have hpi : (pos : Int) < (s.size : Int) := by omega
  have K1 : Hid (∀ h : pos + 1 < s.size, (s[pos + 1]'h).toNat = b1) := H1
  have K2 : Hid (∀ h : pos + 2 < s.size, (s[pos + 2]'h).toNat = b2) := H2
  have K3 : Hid (∀ h : pos + 3 < s.size, (s[pos + 3]'h).toNat = b3) := H3
  clear H1 H2 H3
  by_cases hn : s.size - pos < 4
  · have hni : (s.size : Int) - pos < 4 := by omega
    have HW : Hid (wN (s.size - pos) b1 b2 b3 4 128 143 = 0) := by
      unfold Hid wN
      repeat' split
      all_goals first | rfl | (exfalso; omega)
    rw [HW.out]
    go_enter Try.func15, Try.ntmps15
    go_wp2
    go_ret
    exact ⟨rfl, rfl⟩
  have hni : (4 : Int) ≤ (s.size : Int) - pos := by omega
  have l1 : pos + 1 < s.size := by omega
  have g1 := K1.out l1
  by_cases c1 : b1 < 128
  · have c1i : (b1 : Int) < 128 := by omega
    have HW : Hid (wN (s.size - pos) b1 b2 b3 4 128 143 = 0) := by
      unfold Hid wN
      repeat' split
      all_goals first | rfl | (exfalso; omega)
    rw [HW.out]
    go_enter Try.func15, Try.ntmps15
    go_wp2
    go_ret
    exact ⟨rfl, rfl⟩
  have c1i : (128 : Int) ≤ (b1 : Int) := by omega
  by_cases c2 : 143 < b1
  · have c2i : (143 : Int) < (b1 : Int) := by omega
    have HW : Hid (wN (s.size - pos) b1 b2 b3 4 128 143 = 0) := by
      unfold Hid wN
      repeat' split
      all_goals first | rfl | (exfalso; omega)
    rw [HW.out]
    go_enter Try.func15, Try.ntmps15
    go_wp2
    go_ret
    exact ⟨rfl, rfl⟩
  have c2i : (b1 : Int) ≤ 143 := by omega
  have l2 : pos + 2 < s.size := by omega
  have g2 := K2.out l2
  by_cases c3 : b2 < 128
  · have c3i : (b2 : Int) < 128 := by omega
    have HW : Hid (wN (s.size - pos) b1 b2 b3 4 128 143 = 0) := by
      unfold Hid wN
      repeat' split
      all_goals first | rfl | (exfalso; omega)
    rw [HW.out]
    go_enter Try.func15, Try.ntmps15
    go_wp2
    refine wp_loop_rounds 1 ?_
    rw [rounds_succ]
    go_wp2
    go_ret
    exact ⟨rfl, rfl⟩
  have c3i : (128 : Int) ≤ (b2 : Int) := by omega
  by_cases c4 : 191 < b2
  · have c4i : (191 : Int) < (b2 : Int) := by omega
    have HW : Hid (wN (s.size - pos) b1 b2 b3 4 128 143 = 0) := by
      unfold Hid wN
      repeat' split
      all_goals first | rfl | (exfalso; omega)
    rw [HW.out]
    go_enter Try.func15, Try.ntmps15
    go_wp2
    refine wp_loop_rounds 1 ?_
    rw [rounds_succ]
    go_wp2
    go_ret
    exact ⟨rfl, rfl⟩
  have c4i : (b2 : Int) ≤ 191 := by omega
  have l3 : pos + 3 < s.size := by omega
  have g3 := K3.out l3
  by_cases c5 : b3 < 128
  · have c5i : (b3 : Int) < 128 := by omega
    have HW : Hid (wN (s.size - pos) b1 b2 b3 4 128 143 = 0) := by
      unfold Hid wN
      repeat' split
      all_goals first | rfl | (exfalso; omega)
    rw [HW.out]
    go_enter Try.func15, Try.ntmps15
    go_wp2
    refine wp_loop_rounds 2 ?_
    rw [rounds_succ]
    go_wp2
    rw [rounds_succ]
    go_wp2
    go_ret
    exact ⟨rfl, rfl⟩
  have c5i : (128 : Int) ≤ (b3 : Int) := by omega
  by_cases c6 : 191 < b3
  · have c6i : (191 : Int) < (b3 : Int) := by omega
    have HW : Hid (wN (s.size - pos) b1 b2 b3 4 128 143 = 0) := by
      unfold Hid wN
      repeat' split
      all_goals first | rfl | (exfalso; omega)
    rw [HW.out]
    go_enter Try.func15, Try.ntmps15
    go_wp2
    refine wp_loop_rounds 2 ?_
    rw [rounds_succ]
    go_wp2
    rw [rounds_succ]
    go_wp2
    go_ret
    exact ⟨rfl, rfl⟩
  have c6i : (b3 : Int) ≤ 191 := by omega
  have HW : Hid (wN (s.size - pos) b1 b2 b3 4 128 143 = 4) := by
    unfold Hid wN
    repeat' split
    all_goals first | rfl | (exfalso; omega)
  rw [HW.out]
  go_enter Try.func15, Try.ntmps15
  go_wp2
  refine wp_loop_rounds 3 ?_
  rw [rounds_succ]
  go_wp2
  rw [rounds_succ]
  go_wp2
  rw [rounds_succ]
  go_wp2
  go_ret
  exact ⟨rfl, rfl⟩

end Go.Proofs.Qxb6627869a
