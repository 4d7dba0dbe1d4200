/-
  (*big.Int).Add at differing signs.
-/
import Derived.Test.Qxb6627829aInt
namespace Go.Proofs.Qxb6627829a
open Go.RowKit

set_option maxHeartbeats 3200000 in
theorem add_ge (p q : Nat) (neg : Bool) (ao bo : Option Addr) (n c n2 c2 : Nat) (xs ys : List Int) (w : World)
    (hp : w.heap[p]? = some (.cells #[.bool neg, .slice ao n c] 68 (0, 0))) (hq : w.heap[q]? = some (.cells #[.bool (!neg), .slice bo n2 c2] 68 (0, 0)))
    (hx : NatIs w ao n c xs) (hy : NatIs w bo n2 c2 ys) (hs : val ys ≤ val xs) :
    Calls Try.prog 13 #[.pointer (some ⟨p, 0, none⟩), .pointer (some ⟨p, 0, none⟩), .pointer (some ⟨q, 0, none⟩)] w fun e w' => e = .returned (.pointer (some ⟨p, 0, none⟩)) ∧
      ∃ a' k c' zs w2, NatIs w2 a' k c' zs ∧ val zs = val xs - val ys ∧ w.grownBy w2 (zrow ao) ∧ (a' = ao ∨ zrow a' = some w.heap.size) ∧ ∃ m, w' = ((w2.setCell ⟨p, 1, none⟩ (.slice a' k c')).setCell ⟨p, 0, none⟩ (.bool (decide (0 < k) && neg))).drewN m := by
  obtain ⟨c0, c1, f0, f1⟩ := cell_two hp
  obtain ⟨d0, d1, _, _⟩ := cell_two hq
  have hpl := lt_of_block hp
  have HNE : Hid (¬ some p = zrow ao) := hx.not hp
  have HX : Hid (NatIs w ao n c xs) := hx
  have HY : Hid (NatIs w bo n2 c2 ys) := hy
  have HS : Hid (val ys ≤ val xs) := hs
  obtain ⟨r, er, hr⟩ : ∃ r, r = cmpI (val xs) (val ys) ∧ 0 ≤ r := ⟨_, rfl, by unfold cmpI; (repeat' split) <;> omega⟩
  have ER : Hid (r = cmpI (val xs) (val ys)) := er
  have HCMP : Hid (∀ W : World, W.heap = w.heap → Calls Try.prog 23 #[.slice ao n c, .slice bo n2 c2] W fun e w' => e = .returned (.int .i64 r) ∧ ∃ n, w' = W.drewN n) := by
    intro W hW
    rw [er]
    exact ncmp_any ao bo n c n2 c2 xs ys _ (NatIs.any hx hW) (NatIs.any hy hW)
  have hbb : (neg == !neg) = false := by cases neg <;> rfl
  clear hp hq hx hy hs er
  go_enter Try.func13, Try.ntmps13
  go_wp2
  go_quiet (fail)
  go_wp2
  generalize hW : w.drewN nq = W
  have HWh : Hid (W.heap = w.heap) := by unfold Hid; rw [← hW]; rfl
  have HWo : Hid (W.os = w.os ∧ W.tape = w.tape ∧ W.output = w.output) := by unfold Hid; rw [← hW]; exact ⟨rfl, rfl, rfl⟩
  replace c0 : W.cell? ⟨p, 0, none⟩ = some (.bool neg) := by rw [← hW]; exact c0
  replace c1 : W.cell? ⟨p, 1, none⟩ = some (.slice ao n c) := by rw [← hW]; exact c1
  replace d0 : W.cell? ⟨q, 0, none⟩ = some (.bool (!neg)) := by rw [← hW]; exact d0
  replace d1 : W.cell? ⟨q, 1, none⟩ = some (.slice bo n2 c2) := by rw [← hW]; exact d1
  replace f0 : W.frozen? ⟨p, 0, none⟩ = false := by rw [← hW]; exact f0
  replace f1 : W.frozen? ⟨p, 1, none⟩ = false := by rw [← hW]; exact f1
  have HPL : Hid (p < W.heap.size) := by unfold Hid; rw [HWh.out]; exact hpl
  clear hW hpl
  go_quiet ((go_at_call 23; exact Calls.quiet_of (HCMP.out _ HWh.out)))
  go_wp2
  go_region_with (go_at_call 24; refine (nsub_any ao ao bo n c n c n2 c2 xs ys _ (by exact (NatIs.any HX.out HWh.out).z) (by exact NatIs.any HX.out HWh.out) (by exact NatIs.any HY.out HWh.out) HS.out).mono ?_; rintro e w2 ⟨a', k, c', zs, rfl, h1, h2, h3, h4⟩; replace h4 : a' = ao ∨ zrow a' = some w.heap.size := (by rw [← HWh.out]; exact h4); have q0 : w2.cell? ⟨p, 0, none⟩ = some (.bool neg) := (World.cell?_of_block (h3.block p HPL.out HNE.out)).trans c0; have q1 : w2.cell? ⟨p, 1, none⟩ = some (.slice ao n c) := (World.cell?_of_block (h3.block p HPL.out HNE.out)).trans c1; have r0 : w2.frozen? ⟨p, 0, none⟩ = false := (World.frozen?_of_block (h3.block p HPL.out HNE.out)).trans f0; have r1 : w2.frozen? ⟨p, 1, none⟩ = false := (World.frozen?_of_block (h3.block p HPL.out HNE.out)).trans f1; have HH : Hid (NatIs w2 a' k c' zs ∧ val zs = val xs - val ys ∧ w.grownBy w2 (zrow ao) ∧ (a' = ao ∨ zrow a' = some w.heap.size)) := ⟨h1, h2, ⟨h3.os.trans HWo.out.1, h3.tape.trans HWo.out.2.1, h3.output.trans HWo.out.2.2, (by have := h3.size; rw [show (W.drewN _).heap = w.heap from HWh.out] at this; exact this), (by have := h3.block; rw [show (W.drewN _).heap = w.heap from HWh.out] at this; exact this)⟩, h4⟩; clear h1 h2 h3 h4)
  all_goals
    by_cases hk : 0 < k
    · have hk' : (0 : Int) < (k : Int) := by omega
      have HD : Hid (decide (0 < k) = true) := by unfold Hid; simp [hk]
      go_wp2
      go_ret
      exact ⟨rfl, a', k, c', zs, w2, HH.out.1, HH.out.2.1, HH.out.2.2.1, HH.out.2.2.2, by rw [HD.out, Bool.true_and]; exact ⟨0, rfl⟩⟩
    · obtain rfl : k = 0 := by omega
      go_wp2
      go_ret
      exact ⟨rfl, a', 0, c', zs, w2, HH.out.1, HH.out.2.1, HH.out.2.2.1, HH.out.2.2.2, ⟨0, rfl⟩⟩

set_option maxHeartbeats 3200000 in
theorem add_lt (p q : Nat) (neg : Bool) (ao bo : Option Addr) (n c n2 c2 : Nat) (xs ys : List Int) (w : World)
    (hp : w.heap[p]? = some (.cells #[.bool neg, .slice ao n c] 68 (0, 0))) (hq : w.heap[q]? = some (.cells #[.bool (!neg), .slice bo n2 c2] 68 (0, 0)))
    (hx : NatIs w ao n c xs) (hy : NatIs w bo n2 c2 ys) (hs : val xs < val ys) :
    Calls Try.prog 13 #[.pointer (some ⟨p, 0, none⟩), .pointer (some ⟨p, 0, none⟩), .pointer (some ⟨q, 0, none⟩)] w fun e w' => e = .returned (.pointer (some ⟨p, 0, none⟩)) ∧
      ∃ a' k c' zs w2, NatIs w2 a' k c' zs ∧ val zs = val ys - val xs ∧ w.grownBy w2 (zrow ao) ∧ (a' = ao ∨ zrow a' = some w.heap.size) ∧ ∃ m, w' = ((w2.setCell ⟨p, 1, none⟩ (.slice a' k c')).setCell ⟨p, 0, none⟩ (.bool (decide (0 < k) && (!neg)))).drewN m := by
  obtain ⟨c0, c1, f0, f1⟩ := cell_two hp
  obtain ⟨d0, d1, _, _⟩ := cell_two hq
  have hpl := lt_of_block hp
  have HNE : Hid (¬ some p = zrow ao) := hx.not hp
  have HX : Hid (NatIs w ao n c xs) := hx
  have HY : Hid (NatIs w bo n2 c2 ys) := hy
  have HS : Hid (val xs < val ys) := hs
  obtain ⟨r, er, hr⟩ : ∃ r, r = cmpI (val xs) (val ys) ∧ r < 0 := ⟨_, rfl, by unfold cmpI; (repeat' split) <;> omega⟩
  have ER : Hid (r = cmpI (val xs) (val ys)) := er
  have HCMP : Hid (∀ W : World, W.heap = w.heap → Calls Try.prog 23 #[.slice ao n c, .slice bo n2 c2] W fun e w' => e = .returned (.int .i64 r) ∧ ∃ n, w' = W.drewN n) := by
    intro W hW
    rw [er]
    exact ncmp_any ao bo n c n2 c2 xs ys _ (NatIs.any hx hW) (NatIs.any hy hW)
  have hbb : (neg == !neg) = false := by cases neg <;> rfl
  clear hp hq hx hy hs er
  go_enter Try.func13, Try.ntmps13
  go_wp2
  go_quiet (fail)
  go_wp2
  generalize hW : w.drewN nq = W
  have HWh : Hid (W.heap = w.heap) := by unfold Hid; rw [← hW]; rfl
  have HWo : Hid (W.os = w.os ∧ W.tape = w.tape ∧ W.output = w.output) := by unfold Hid; rw [← hW]; exact ⟨rfl, rfl, rfl⟩
  replace c0 : W.cell? ⟨p, 0, none⟩ = some (.bool neg) := by rw [← hW]; exact c0
  replace c1 : W.cell? ⟨p, 1, none⟩ = some (.slice ao n c) := by rw [← hW]; exact c1
  replace d0 : W.cell? ⟨q, 0, none⟩ = some (.bool (!neg)) := by rw [← hW]; exact d0
  replace d1 : W.cell? ⟨q, 1, none⟩ = some (.slice bo n2 c2) := by rw [← hW]; exact d1
  replace f0 : W.frozen? ⟨p, 0, none⟩ = false := by rw [← hW]; exact f0
  replace f1 : W.frozen? ⟨p, 1, none⟩ = false := by rw [← hW]; exact f1
  have HPL : Hid (p < W.heap.size) := by unfold Hid; rw [HWh.out]; exact hpl
  clear hW hpl
  go_quiet ((go_at_call 23; exact Calls.quiet_of (HCMP.out _ HWh.out)))
  go_wp2
  go_region_with (go_at_call 24; refine (nsub_any ao bo ao n c n2 c2 n c ys xs _ (by exact (NatIs.any HX.out HWh.out).z) (by exact NatIs.any HY.out HWh.out) (by exact NatIs.any HX.out HWh.out) (Int.le_of_lt HS.out)).mono ?_; rintro e w2 ⟨a', k, c', zs, rfl, h1, h2, h3, h4⟩; replace h4 : a' = ao ∨ zrow a' = some w.heap.size := (by rw [← HWh.out]; exact h4); have q0 : w2.cell? ⟨p, 0, none⟩ = some (.bool neg) := (World.cell?_of_block (h3.block p HPL.out HNE.out)).trans c0; have q1 : w2.cell? ⟨p, 1, none⟩ = some (.slice ao n c) := (World.cell?_of_block (h3.block p HPL.out HNE.out)).trans c1; have r0 : w2.frozen? ⟨p, 0, none⟩ = false := (World.frozen?_of_block (h3.block p HPL.out HNE.out)).trans f0; have r1 : w2.frozen? ⟨p, 1, none⟩ = false := (World.frozen?_of_block (h3.block p HPL.out HNE.out)).trans f1; have HH : Hid (NatIs w2 a' k c' zs ∧ val zs = val ys - val xs ∧ w.grownBy w2 (zrow ao) ∧ (a' = ao ∨ zrow a' = some w.heap.size)) := ⟨h1, h2, ⟨h3.os.trans HWo.out.1, h3.tape.trans HWo.out.2.1, h3.output.trans HWo.out.2.2, (by have := h3.size; rw [show (W.drewN _).heap = w.heap from HWh.out] at this; exact this), (by have := h3.block; rw [show (W.drewN _).heap = w.heap from HWh.out] at this; exact this)⟩, h4⟩; clear h1 h2 h3 h4)
  all_goals
    by_cases hk : 0 < k
    · have hk' : (0 : Int) < (k : Int) := by omega
      have HD : Hid (decide (0 < k) = true) := by unfold Hid; simp [hk]
      go_wp2
      go_ret
      exact ⟨rfl, a', k, c', zs, w2, HH.out.1, HH.out.2.1, HH.out.2.2.1, HH.out.2.2.2, by rw [HD.out, Bool.true_and]; exact ⟨0, rfl⟩⟩
    · obtain rfl : k = 0 := by omega
      go_wp2
      go_ret
      exact ⟨rfl, a', 0, c', zs, w2, HH.out.1, HH.out.2.1, HH.out.2.2.1, HH.out.2.2.2, ⟨0, rfl⟩⟩

end Go.Proofs.Qxb6627829a
