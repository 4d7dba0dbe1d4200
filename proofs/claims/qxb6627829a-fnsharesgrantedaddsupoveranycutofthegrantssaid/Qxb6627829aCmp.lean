/-
  nat.cmp at none, one and two words.
-/
import Derived.Test.Qxb6627829aSet
namespace Go.Proofs.Qxb6627829a
open Go.RowKit

def cmpI (a b : Int) : Int := if a < b then -1 else if b < a then 1 else 0

set_option maxHeartbeats 400000 in
theorem cmp_lt (a b : Option Addr) (m n c d : Nat) (w : World) (h : m < n) :
    Calls Try.prog 23 #[.slice a m c, .slice b n d] w fun e w' => e = .returned (.int .i64 (-1)) ∧ ∃ q, w' = w.drewN q := by
  have h1 : ((m : Int) != (n : Int)) = true := by rw [bne_iff_ne]; omega
  go_enter Try.func23, Try.ntmps23
  go_wp2
  go_ret
  exact ⟨rfl, 0, rfl⟩
set_option maxHeartbeats 400000 in
theorem cmp_gt (a b : Option Addr) (m n c d : Nat) (w : World) (h : n < m) :
    Calls Try.prog 23 #[.slice a m c, .slice b n d] w fun e w' => e = .returned (.int .i64 1) ∧ ∃ q, w' = w.drewN q := by
  have h1 : ((m : Int) != (n : Int)) = true := by rw [bne_iff_ne]; omega
  go_enter Try.func23, Try.ntmps23
  go_wp2
  go_ret
  exact ⟨rfl, 0, rfl⟩
set_option maxHeartbeats 400000 in
theorem cmp_00 (a b : Option Addr) (c d : Nat) (w : World) :
    Calls Try.prog 23 #[.slice a 0 c, .slice b 0 d] w fun e w' => e = .returned (.int .i64 0) ∧ ∃ q, w' = w.drewN q := by
  go_enter Try.func23, Try.ntmps23
  go_wp2
  go_ret
  exact ⟨rfl, 0, rfl⟩

/-- The last step: one word against one. -/
theorem three (a b : Int) : (a < b ∧ cmpI a b = -1) ∨ (b < a ∧ cmpI a b = 1) ∨ (a ≤ b ∧ b ≤ a ∧ cmpI a b = 0) := by unfold cmpI; (repeat' split) <;> omega

set_option maxHeartbeats 1600000 in
theorem cmp_11 (gx gy c d : Nat) (x0 y0 : Int) (w : World) (hx : w.cell? ⟨gx, 0, none⟩ = some (.int .u64 x0)) (hy : w.cell? ⟨gy, 0, none⟩ = some (.int .u64 y0)) :
    Calls Try.prog 23 #[.slice (some ⟨gx, 0, none⟩) 1 c, .slice (some ⟨gy, 0, none⟩) 1 d] w fun e w' => e = .returned (.int .i64 (cmpI x0 y0)) ∧ ∃ q, w' = w.drewN q := by
  rcases three x0 y0 with ⟨hc, ev⟩ | ⟨hc, ev⟩ | ⟨hc, hc', ev⟩
  · rw [ev]
    clear ev
    go_enter Try.func23, Try.ntmps23
    go_wp2
    refine wp_loop_rounds 1 ?_
    rw [rounds_succ]
    go_wp2
    go_quiet (fail)
    go_wp2
    go_quiet (fail)
    go_wp2
    go_ret
    exact ⟨rfl, by simp only [World.drewN_drewN]; exact ⟨_, rfl⟩⟩
  · rw [ev]
    clear ev
    go_enter Try.func23, Try.ntmps23
    go_wp2
    refine wp_loop_rounds 1 ?_
    rw [rounds_succ]
    go_wp2
    go_quiet (fail)
    go_wp2
    go_quiet (fail)
    go_wp2
    go_quiet (fail)
    go_wp2
    go_ret
    exact ⟨rfl, by simp only [World.drewN_drewN]; exact ⟨_, rfl⟩⟩
  · rw [ev]
    clear ev
    go_enter Try.func23, Try.ntmps23
    go_wp2
    refine wp_loop_rounds 1 ?_
    rw [rounds_succ]
    go_wp2
    go_quiet (fail)
    go_wp2
    go_quiet (fail)
    go_wp2
    go_quiet (fail)
    go_wp2
    go_ret
    exact ⟨rfl, by simp only [World.drewN_drewN]; exact ⟨_, rfl⟩⟩

/-- Two words against two. -/
def cmp2 (x0 x1 y0 y1 : Int) : Int := if x1 = y1 then cmpI x0 y0 else cmpI x1 y1

set_option maxHeartbeats 3200000 in
theorem cmp_22 (gx gy c d : Nat) (x0 x1 y0 y1 : Int) (w : World) (hx : w.cell? ⟨gx, 0, none⟩ = some (.int .u64 x0)) (hy : w.cell? ⟨gy, 0, none⟩ = some (.int .u64 y0)) (ix : w.cell? ⟨gx, 1, none⟩ = some (.int .u64 x1)) (iy : w.cell? ⟨gy, 1, none⟩ = some (.int .u64 y1)) :
    Calls Try.prog 23 #[.slice (some ⟨gx, 0, none⟩) 2 c, .slice (some ⟨gy, 0, none⟩) 2 d] w fun e w' => e = .returned (.int .i64 (cmp2 x0 x1 y0 y1)) ∧ ∃ q, w' = w.drewN q := by
  unfold cmp2
  by_cases he : x1 = y1
  · rw [if_pos he]
    have b1 : (x1 == y1) = true := by simp [he]
    clear he
    rcases three x0 y0 with ⟨hc, ev⟩ | ⟨hc, ev⟩ | ⟨hc, hc', ev⟩
    · rw [ev]
      clear ev
      go_enter Try.func23, Try.ntmps23
      go_wp2
      refine wp_loop_rounds 2 ?_
      rw [rounds_succ]
      go_wp2
      go_quiet (fail)
      go_wp2
      rw [rounds_succ]
      go_wp2
      go_quiet (fail)
      go_wp2
      go_quiet (fail)
      go_wp2
      go_ret
      exact ⟨rfl, by simp only [World.drewN_drewN]; exact ⟨_, rfl⟩⟩
    · rw [ev]
      clear ev
      go_enter Try.func23, Try.ntmps23
      go_wp2
      refine wp_loop_rounds 2 ?_
      rw [rounds_succ]
      go_wp2
      go_quiet (fail)
      go_wp2
      rw [rounds_succ]
      go_wp2
      go_quiet (fail)
      go_wp2
      go_quiet (fail)
      go_wp2
      go_quiet (fail)
      go_wp2
      go_ret
      exact ⟨rfl, by simp only [World.drewN_drewN]; exact ⟨_, rfl⟩⟩
    · rw [ev]
      clear ev
      go_enter Try.func23, Try.ntmps23
      go_wp2
      refine wp_loop_rounds 2 ?_
      rw [rounds_succ]
      go_wp2
      go_quiet (fail)
      go_wp2
      rw [rounds_succ]
      go_wp2
      go_quiet (fail)
      go_wp2
      go_quiet (fail)
      go_wp2
      go_quiet (fail)
      go_wp2
      go_ret
      exact ⟨rfl, by simp only [World.drewN_drewN]; exact ⟨_, rfl⟩⟩
  · rw [if_neg he]
    have b1 : (x1 == y1) = false := by simp [he]
    rcases three x1 y1 with ⟨hc, ev⟩ | ⟨hc, ev⟩ | ⟨hc, hc', ev⟩
    · rw [ev]
      clear ev he
      go_enter Try.func23, Try.ntmps23
      go_wp2
      refine wp_loop_rounds 2 ?_
      rw [rounds_succ]
      go_wp2
      go_quiet (fail)
      go_wp2
      go_quiet (fail)
      go_wp2
      go_ret
      exact ⟨rfl, by simp only [World.drewN_drewN]; exact ⟨_, rfl⟩⟩
    · rw [ev]
      clear ev he
      go_enter Try.func23, Try.ntmps23
      go_wp2
      refine wp_loop_rounds 2 ?_
      rw [rounds_succ]
      go_wp2
      go_quiet (fail)
      go_wp2
      go_quiet (fail)
      go_wp2
      go_quiet (fail)
      go_wp2
      go_ret
      exact ⟨rfl, by simp only [World.drewN_drewN]; exact ⟨_, rfl⟩⟩
    · exact absurd (by omega) he

end Go.Proofs.Qxb6627829a
