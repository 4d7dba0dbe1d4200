/-
  (*big.Int).Cmp of two variables that hold the same number.
-/
import Derived.Test.Qxb6627829aIntSub
import Derived.LaidEqlPtr
namespace Go.Proofs.Qxb6627829a
open Go.RowKit

theorem sgn_same {n1 n2 : Bool} {xs ys : List Int} (hx : Norm2 xs) (hy : Norm2 ys) (h1 : n1 = true → 0 < xs.length) (h2 : n2 = true → 0 < ys.length) (h : sgn n1 (val xs) = sgn n2 (val ys)) : n1 = n2 ∧ val xs = val ys := by
  have p1 := val_nonneg hx
  have p2 := val_nonneg hy
  have q : ∀ {zs : List Int}, Norm2 zs → 0 < zs.length → 0 < val zs := by
    intro zs hz hl
    rcases norm2_cases hz with rfl | ⟨a, rfl, h1, h2⟩ | ⟨a, b, rfl, h1, h2, h3, h4⟩
    · simp at hl
    · rw [val_one]; omega
    · rw [val_two]; omega
  cases n1 <;> cases n2
  · exact ⟨rfl, by simpa [sgn] using h⟩
  · have := q hy (h2 rfl); simp [sgn] at h; omega
  · have := q hx (h1 rfl); simp [sgn] at h; omega
  · refine ⟨rfl, ?_⟩; simp [sgn] at h; omega

theorem cmpI_self (x : Int) : cmpI x x = 0 := by unfold cmpI; simp

set_option maxHeartbeats 3200000 in
theorem intCmp_same (p q : Nat) (neg : Bool) (ao bo : Option Addr) (n c n2 c2 : Nat) (xs ys : List Int) (w : World) (hne : ¬ p = q)
    (hp : w.heap[p]? = some (.cells #[.bool neg, .slice ao n c] 68 (0, 0))) (hq : w.heap[q]? = some (.cells #[.bool neg, .slice bo n2 c2] 68 (0, 0)))
    (hx : NatIs w ao n c xs) (hy : NatIs w bo n2 c2 ys) (hs : val xs = val ys) :
    Calls Try.prog 14 #[.pointer (some ⟨p, 0, none⟩), .pointer (some ⟨q, 0, none⟩)] w fun e w' => e = .returned (.int .i64 0) ∧ Below w.heap.size w w' := by
  obtain ⟨c0, c1, _, _⟩ := cell_two hp
  obtain ⟨d0, d1, _, _⟩ := cell_two hq
  have HCMP : Hid (∀ W : World, W.heap = w.heap → Calls Try.prog 23 #[.slice ao n c, .slice bo n2 c2] W fun e w' => e = .returned (.int .i64 0) ∧ ∃ n, w' = W.drewN n) := by
    intro W hW
    have := ncmp_any ao bo n c n2 c2 xs ys _ (NatIs.any hx hW) (NatIs.any hy hW)
    rw [hs, cmpI_self] at this
    exact this
  have heq : (binOp .eql 27 (.pointer (some ⟨p, 0, none⟩)) (.pointer (some ⟨q, 0, none⟩))).run Try.prog w = .ok (.bool false) w := by
    have hi : (Try.prog.info? 68).map (·.size) = some 2 := by kernel_rfl
    cases hj : Try.prog.info? 68 with
    | none => rw [hj] at hi; cases hi
    | some j =>
      rw [hj] at hi
      have hsz : j.size = 2 := Option.some.inj hi
      exact run_eql_ptr_other w Try.underlying27 hj (by rw [hsz]; decide) (by intro e; exact hne (by injection e)) hp hq
  clear hx hy hs hp hq
  cases neg
  all_goals
    go_enter Try.func14, Try.ntmps14
    go_wp2
    go_quiet (fail)
    go_wp2
    generalize hW : w.drewN nq = W
    have HWh : Hid (W.heap = w.heap) := by unfold Hid; rw [← hW]; rfl
    have HW : Hid (Below w.heap.size w W) := by unfold Hid; rw [← hW]; exact below_drewN (Below.refl _ _) _
    replace c0 := (show W.cell? ⟨p, 0, none⟩ = w.cell? ⟨p, 0, none⟩ by rw [← hW]; rfl).trans c0
    replace c1 : W.cell? ⟨p, 1, none⟩ = some (.slice ao n c) := by rw [← hW]; exact c1
    replace d0 := (show W.cell? ⟨q, 0, none⟩ = w.cell? ⟨q, 0, none⟩ by rw [← hW]; rfl).trans d0
    replace d1 : W.cell? ⟨q, 1, none⟩ = some (.slice bo n2 c2) := by rw [← hW]; exact d1
    clear hW
    go_quiet ((go_at_call 23; exact Calls.quiet_of (HCMP.out _ HWh.out)))
    go_wp2
    go_ret
    exact ⟨rfl, below_drewN HW.out _⟩

theorem bigCmp {B1 B2 p q : Nat} {V : Int} {w : World} (hne : ¬ p = q) (h1 : BigAt B1 w p V) (h2 : BigAt B2 w q V) :
    Calls Try.prog 14 #[.pointer (some ⟨p, 0, none⟩), .pointer (some ⟨q, 0, none⟩)] w fun e w' => e = .returned (.int .i64 0) ∧ Below w.heap.size w w' := by
  obtain ⟨neg, ao, n, c, xs, a1, a2, a3, a4, _⟩ := h1
  obtain ⟨neg2, bo, n2, c2, ys, b1, b2, b3, b4, _⟩ := h2
  obtain ⟨rfl, hv⟩ := sgn_same a2.2.1 b2.2.1 (by rw [a2.1]; exact a4) (by rw [b2.1]; exact b4) (a3.symm.trans b3)
  exact intCmp_same p q neg ao bo n c n2 c2 xs ys w hne a1 b1 a2 b2 hv

end Go.Proofs.Qxb6627829a
