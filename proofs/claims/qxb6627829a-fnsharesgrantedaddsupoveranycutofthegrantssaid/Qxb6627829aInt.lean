/-
  (*big.Int).Add where the receiver is the first operand; Sign, Cmp, Bits, NewInt.
-/
import Derived.Test.Qxb6627829aNatAdd
namespace Go.Proofs.Qxb6627829a
open Go.RowKit

/-- The number that a sign and words make. -/
def sgn (neg : Bool) (v : Int) : Int := if neg = true then -v else v
/-- Block p holds a big.Int of value V; it and its row lie from B on. -/
def BigAt (B : Nat) (w : World) (p : Nat) (V : Int) : Prop :=
  ∃ neg ao n c ws, w.heap[p]? = some (.cells #[.bool neg, .slice ao n c] 68 (0, 0)) ∧ NatIs w ao n c ws ∧ V = sgn neg (val ws) ∧ (neg = true → 0 < n) ∧ B ≤ p ∧ ∀ g, zrow ao = some g → B ≤ g

theorem NatIs.any {w w' : World} {a : Option Addr} {n c : Nat} {ws : List Int} (h : NatIs w a n c ws) (hh : w'.heap = w.heap) : NatIs w' a n c ws := by
  unfold NatIs RowAt at *; rw [hh]; exact h
theorem cell_two {w : World} {p : Nat} {x y : Value} {t : TypeId} (h : w.heap[p]? = some (.cells #[x, y] t (0, 0))) : w.cell? ⟨p, 0, none⟩ = some x ∧ w.cell? ⟨p, 1, none⟩ = some y ∧ w.frozen? ⟨p, 0, none⟩ = false ∧ w.frozen? ⟨p, 1, none⟩ = false := by
  simp [World.cell?, World.frozen?, h]
theorem NatIs.not {w : World} {a : Option Addr} {n c : Nat} {ws : List Int} (h : NatIs w a n c ws) {p : Nat} {x y : Value} (hp : w.heap[p]? = some (.cells #[x, y] 68 (0, 0))) : ¬ some p = zrow a := by
  rcases h.2.2.2 with ⟨rfl, _⟩ | ⟨g, cur, rfl, h2, _⟩
  · simp [zrow]
  · intro e
    simp [zrow] at e
    subst e
    unfold RowAt at h2
    rw [hp] at h2
    simp at h2

set_option maxHeartbeats 3200000 in
theorem add_same (p q : Nat) (neg : Bool) (ao bo : Option Addr) (n c n2 c2 : Nat) (xs ys : List Int) (w : World)
    (hp : w.heap[p]? = some (.cells #[.bool neg, .slice ao n c] 68 (0, 0))) (hq : w.heap[q]? = some (.cells #[.bool neg, .slice bo n2 c2] 68 (0, 0)))
    (hx : NatIs w ao n c xs) (hy : NatIs w bo n2 c2 ys) (hs : val xs + val ys ≤ 340282366920938463463374607431768211455) :
    Calls Try.prog 13 #[.pointer (some ⟨p, 0, none⟩), .pointer (some ⟨p, 0, none⟩), .pointer (some ⟨q, 0, none⟩)] w fun e w' => e = .returned (.pointer (some ⟨p, 0, none⟩)) ∧
      ∃ a' k c' zs w2, NatIs w2 a' k c' zs ∧ val zs = val xs + val ys ∧ w.grownBy w2 (zrow ao) ∧ (a' = ao ∨ zrow a' = some w.heap.size) ∧ ∃ m, w' = ((w2.setCell ⟨p, 1, none⟩ (.slice a' k c')).setCell ⟨p, 0, none⟩ (.bool (decide (0 < k) && neg))).drewN m := by
  obtain ⟨c0, c1, f0, f1⟩ := cell_two hp
  obtain ⟨d0, d1, _, _⟩ := cell_two hq
  have hpl := lt_of_block hp
  have HNE : Hid (¬ some p = zrow ao) := hx.not hp
  have HX : Hid (NatIs w ao n c xs) := hx
  have HY : Hid (NatIs w bo n2 c2 ys) := hy
  have HS : Hid (val xs + val ys ≤ 340282366920938463463374607431768211455) := hs
  clear hp hq hx hy hs
  go_enter Try.func13, Try.ntmps13
  go_wp2
  go_quiet (fail)
  go_wp2
  go_region_with (go_at_call 22; refine (nadd_any ao ao bo n c n c n2 c2 xs ys _ (by exact (NatIs.any HX.out (by rfl)).z) (by exact NatIs.any HX.out (by rfl)) (by exact NatIs.any HY.out (by rfl)) HS.out).mono ?_; rintro e w2 ⟨a', k, c', zs, rfl, h1, h2, h3, h4⟩; have q0 : w2.cell? ⟨p, 0, none⟩ = some (.bool neg) := (World.cell?_of_block (h3.block p hpl HNE.out)).trans c0; have q1 : w2.cell? ⟨p, 1, none⟩ = some (.slice ao n c) := (World.cell?_of_block (h3.block p hpl HNE.out)).trans c1; have r0 : w2.frozen? ⟨p, 0, none⟩ = false := (World.frozen?_of_block (h3.block p hpl HNE.out)).trans f0; have r1 : w2.frozen? ⟨p, 1, none⟩ = false := (World.frozen?_of_block (h3.block p hpl HNE.out)).trans f1; have HH : Hid (NatIs w2 a' k c' zs ∧ val zs = val xs + val ys ∧ w.grownBy w2 (zrow ao) ∧ (a' = ao ∨ zrow a' = some w.heap.size)) := ⟨h1, h2, ⟨h3.os, h3.tape, h3.output, h3.size, h3.block⟩, h4⟩; clear h1 h2 h3 h4)
  all_goals
    by_cases hk : 0 < k
    · have hk' : (0 : Int) < (k : Int) := by omega
      have HD : Hid (decide (0 < k) = true) := by unfold Hid; simp [hk]
      go_wp2
      go_ret
      exact ⟨rfl, a', k, c', zs, w2, HH.out.1, HH.out.2.1, HH.out.2.2.1, HH.out.2.2.2, by rw [HD.out, Bool.true_and]; exact ⟨0, rfl⟩⟩
    · obtain rfl : k = 0 := by omega
      go_wp2
      go_ret
      exact ⟨rfl, a', 0, c', zs, w2, HH.out.1, HH.out.2.1, HH.out.2.2.1, HH.out.2.2.2, ⟨0, rfl⟩⟩

end Go.Proofs.Qxb6627829a
