/-
  addVV_g, subVV_g at one and two words; addVW, subVW at one word.
-/
import Derived.Test.Qxb6627829aBits
import Derived.Deep.QuietTactic
import Derived.BigQuiet
namespace Go.Proofs.Qxb6627829a
open Go.RowKit

theorem add_0 (x y : Int) (hx : 0 ≤ x) (hy : 0 ≤ y) (w : World) :
    Calls Try.prog 30 #[.int .u64 x, .int .u64 y, .int .u64 0] w fun e w' => e = .returned (.tuple #[.int .u64 (lo (x + y)), .int .u64 (hi (x + y))]) ∧ w' = w := by
  have := add_any x y 0 hx hy (by omega) (by omega) w
  rw [Int.add_zero] at this; exact this
theorem sub_0 (x y : Int) (hx : 0 ≤ x) (hy : 0 ≤ y) (hy' : y ≤ 18446744073709551615) (w : World) :
    Calls Try.prog 33 #[.int .u64 x, .int .u64 y, .int .u64 0] w fun e w' => e = .returned (.tuple #[.int .u64 (lo (x - y)), .int .u64 (bor x y)]) ∧ w' = w := by
  have := sub_any x y 0 hx hy hy' (by omega) (by omega) w
  rw [Int.add_zero, Int.sub_zero] at this; exact this

theorem hi_01 {x y c : Int} (hx : 0 ≤ x) (hy : 0 ≤ y) (hx' : x ≤ 18446744073709551615) (hy' : y ≤ 18446744073709551615) (h0 : 0 ≤ c) (h1 : c ≤ 1) : 0 ≤ hi (x + y + c) ∧ hi (x + y + c) ≤ 1 := by unfold hi; omega
theorem hi_01' {x y : Int} (hx : 0 ≤ x) (hy : 0 ≤ y) (hx' : x ≤ 18446744073709551615) (hy' : y ≤ 18446744073709551615) : 0 ≤ hi (x + y) ∧ hi (x + y) ≤ 1 := by unfold hi; omega

theorem setCell_drewN (w : World) (n : Nat) (a : Addr) (u : Value) : (w.drewN n).setCell a u = (w.setCell a u).drewN n := rfl
theorem two_stores (w : World) (n m : Nat) (a b : Addr) (u v : Value) : (((w.drewN n).setCell a u).drewN m).setCell b v = ((w.setCell a u).setCell b v).drewN (n + m) := by
  rw [setCell_drewN, setCell_drewN, setCell_drewN, World.drewN_drewN]

set_option maxHeartbeats 800000 in
theorem addVV1 (gz gx gy cz cx cy : Nat) (x0 y0 z0 : Int) (w : World) (hx : w.cell? ⟨gx, 0, none⟩ = some (.int .u64 x0)) (hy : w.cell? ⟨gy, 0, none⟩ = some (.int .u64 y0)) (hz : w.cell? ⟨gz, 0, none⟩ = some (.int .u64 z0)) (fz : w.frozen? ⟨gz, 0, none⟩ = false)
    (hx0 : 0 ≤ x0) (hy0 : 0 ≤ y0) :
    Calls Try.prog 16 #[.slice (some ⟨gz, 0, none⟩) 1 cz, .slice (some ⟨gx, 0, none⟩) 1 cx, .slice (some ⟨gy, 0, none⟩) 1 cy] w fun e w' =>
      e = .returned (.int .u64 (hi (x0 + y0))) ∧ ∃ m, w' = (w.setCell ⟨gz, 0, none⟩ (.int .u64 (lo (x0 + y0)))).drewN m := by
  go_enter Try.func16, Try.ntmps16
  go_wp2
  refine wp_loop_rounds 2 ?_
  rw [rounds_succ]
  go_wp2
  go_quiet ((go_at_call 30; exact Calls.quiet_of_same (add_0 _ _ hx0 hy0 _)))
  go_wp2
  rw [rounds_succ]
  go_wp2
  go_ret
  exact ⟨rfl, _, rfl⟩

set_option maxHeartbeats 800000 in
theorem subVV1 (gz gx gy cz cx cy : Nat) (x0 y0 z0 : Int) (w : World) (hx : w.cell? ⟨gx, 0, none⟩ = some (.int .u64 x0)) (hy : w.cell? ⟨gy, 0, none⟩ = some (.int .u64 y0)) (hz : w.cell? ⟨gz, 0, none⟩ = some (.int .u64 z0)) (fz : w.frozen? ⟨gz, 0, none⟩ = false)
    (hx0 : 0 ≤ x0) (hy0 : 0 ≤ y0) (hy0' : y0 ≤ 18446744073709551615) :
    Calls Try.prog 17 #[.slice (some ⟨gz, 0, none⟩) 1 cz, .slice (some ⟨gx, 0, none⟩) 1 cx, .slice (some ⟨gy, 0, none⟩) 1 cy] w fun e w' =>
      e = .returned (.int .u64 (bor x0 y0)) ∧ ∃ m, w' = (w.setCell ⟨gz, 0, none⟩ (.int .u64 (lo (x0 - y0)))).drewN m := by
  go_enter Try.func17, Try.ntmps17
  go_wp2
  refine wp_loop_rounds 2 ?_
  rw [rounds_succ]
  go_wp2
  go_quiet ((go_at_call 33; exact Calls.quiet_of_same (sub_0 _ _ hx0 hy0 hy0' _)))
  go_wp2
  rw [rounds_succ]
  go_wp2
  go_ret
  exact ⟨rfl, _, rfl⟩

set_option maxHeartbeats 1600000 in
theorem addVV2 (gz gx gy cz cx cy : Nat) (x0 y0 z0 x1 y1 z1 : Int) (w : World) (hx : w.cell? ⟨gx, 0, none⟩ = some (.int .u64 x0)) (hy : w.cell? ⟨gy, 0, none⟩ = some (.int .u64 y0)) (hz : w.cell? ⟨gz, 0, none⟩ = some (.int .u64 z0)) (fz : w.frozen? ⟨gz, 0, none⟩ = false)
    (ix : w.cell? ⟨gx, 1, none⟩ = some (.int .u64 x1)) (iy : w.cell? ⟨gy, 1, none⟩ = some (.int .u64 y1)) (iz : w.cell? ⟨gz, 1, none⟩ = some (.int .u64 z1)) (jz : w.frozen? ⟨gz, 1, none⟩ = false)
    (hx0 : 0 ≤ x0) (hy0 : 0 ≤ y0) (hx1 : 0 ≤ x1) (hy1 : 0 ≤ y1) (hx0' : x0 ≤ 18446744073709551615) (hy0' : y0 ≤ 18446744073709551615) :
    Calls Try.prog 16 #[.slice (some ⟨gz, 0, none⟩) 2 cz, .slice (some ⟨gx, 0, none⟩) 2 cx, .slice (some ⟨gy, 0, none⟩) 2 cy] w fun e w' =>
      e = .returned (.int .u64 (hi (x1 + y1 + hi (x0 + y0)))) ∧ ∃ m, w' = ((w.setCell ⟨gz, 0, none⟩ (.int .u64 (lo (x0 + y0)))).setCell ⟨gz, 1, none⟩ (.int .u64 (lo (x1 + y1 + hi (x0 + y0))))).drewN m := by
  obtain ⟨k0, k1⟩ : 0 ≤ hi (x0 + y0) ∧ hi (x0 + y0) ≤ 1 := hi_01' hx0 hy0 hx0' hy0'
  go_enter Try.func16, Try.ntmps16
  go_wp2
  refine wp_loop_rounds 3 ?_
  rw [rounds_succ]
  go_wp2
  go_quiet ((go_at_call 30; exact Calls.quiet_of_same (add_0 _ _ hx0 hy0 _)))
  go_wp2
  rw [rounds_succ]
  go_wp2
  go_quiet ((go_at_call 30; exact Calls.quiet_of_same (add_any _ _ _ hx1 hy1 k0 k1 _)))
  go_wp2
  rw [rounds_succ]
  go_wp2
  go_ret
  exact ⟨rfl, _, two_stores _ _ _ _ _ _ _⟩

set_option maxHeartbeats 1600000 in
theorem subVV2 (gz gx gy cz cx cy : Nat) (x0 y0 z0 x1 y1 z1 : Int) (w : World) (hx : w.cell? ⟨gx, 0, none⟩ = some (.int .u64 x0)) (hy : w.cell? ⟨gy, 0, none⟩ = some (.int .u64 y0)) (hz : w.cell? ⟨gz, 0, none⟩ = some (.int .u64 z0)) (fz : w.frozen? ⟨gz, 0, none⟩ = false)
    (ix : w.cell? ⟨gx, 1, none⟩ = some (.int .u64 x1)) (iy : w.cell? ⟨gy, 1, none⟩ = some (.int .u64 y1)) (iz : w.cell? ⟨gz, 1, none⟩ = some (.int .u64 z1)) (jz : w.frozen? ⟨gz, 1, none⟩ = false)
    (hx0 : 0 ≤ x0) (hy0 : 0 ≤ y0) (hx1 : 0 ≤ x1) (hy1 : 0 ≤ y1) (hy0' : y0 ≤ 18446744073709551615) (hy1' : y1 ≤ 18446744073709551615) :
    Calls Try.prog 17 #[.slice (some ⟨gz, 0, none⟩) 2 cz, .slice (some ⟨gx, 0, none⟩) 2 cx, .slice (some ⟨gy, 0, none⟩) 2 cy] w fun e w' =>
      e = .returned (.int .u64 (bor x1 (y1 + bor x0 y0))) ∧ ∃ m, w' = ((w.setCell ⟨gz, 0, none⟩ (.int .u64 (lo (x0 - y0)))).setCell ⟨gz, 1, none⟩ (.int .u64 (lo (x1 - y1 - bor x0 y0)))).drewN m := by
  obtain ⟨k0, k1⟩ : 0 ≤ bor x0 y0 ∧ bor x0 y0 ≤ 1 := bor_01 x0 y0
  go_enter Try.func17, Try.ntmps17
  go_wp2
  refine wp_loop_rounds 3 ?_
  rw [rounds_succ]
  go_wp2
  go_quiet ((go_at_call 33; exact Calls.quiet_of_same (sub_0 _ _ hx0 hy0 hy0' _)))
  go_wp2
  rw [rounds_succ]
  go_wp2
  go_quiet ((go_at_call 33; exact Calls.quiet_of_same (sub_any _ _ _ hx1 hy1 hy1' k0 k1 _)))
  go_wp2
  rw [rounds_succ]
  go_wp2
  go_ret
  exact ⟨rfl, _, two_stores _ _ _ _ _ _ _⟩

end Go.Proofs.Qxb6627829a
