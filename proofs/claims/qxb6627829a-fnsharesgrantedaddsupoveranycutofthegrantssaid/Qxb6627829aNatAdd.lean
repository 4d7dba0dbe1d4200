/-
  nat.add and nat.sub, whole.
-/
import Derived.Test.Qxb6627829aVal
namespace Go.Proofs.Qxb6627829a
open Go.RowKit

set_option maxHeartbeats 400000 in
theorem nadd_00 (a b b' : Option Addr) (l c d d' : Nat) (w : World) :
    Calls Try.prog 22 #[.slice a l c, .slice b 0 d, .slice b' 0 d'] w fun e w' => e = .returned (.slice a 0 c) ∧ w' = w := by
  go_enter Try.func22, Try.ntmps22
  go_wp2
  go_ret
  exact ⟨rfl, rfl⟩
set_option maxHeartbeats 400000 in
theorem nadd_10 (a b b' : Option Addr) (l c d d' : Nat) (w : World) (p : List Int → Nat → Prop) (h : Calls Try.prog 25 #[.slice a l c, .slice b 1 d] w fun e w' => NatOut a p w e w') :
    Calls Try.prog 22 #[.slice a l c, .slice b 1 d, .slice b' 0 d'] w fun e w' => NatOut a p w e w' := by
  have H : Hid (Calls Try.prog 25 #[.slice a l c, .slice b 1 d] w fun e w' => NatOut a p w e w') := h
  clear h
  go_enter Try.func22, Try.ntmps22
  go_wp2_with fail
  refine H.out.mono ?_
  rintro e w1 ⟨g, k, c', cur, rfl, h1, h2, h3, h4, h5, h6, h7⟩
  have HH : Hid (NatOut a p w (.returned (.slice (some ⟨g, 0, none⟩) k c')) w1) := ⟨g, k, c', cur, rfl, h1, h2, h3, h4, h5, h6, h7⟩
  clear h1 h2 h3 h4 h5 h6 h7
  go_wp2
  go_ret
  exact HH.out
set_option maxHeartbeats 400000 in
theorem nadd_20 (a b b' : Option Addr) (l c d d' : Nat) (w : World) (p : List Int → Nat → Prop) (h : Calls Try.prog 25 #[.slice a l c, .slice b 2 d] w fun e w' => NatOut a p w e w') :
    Calls Try.prog 22 #[.slice a l c, .slice b 2 d, .slice b' 0 d'] w fun e w' => NatOut a p w e w' := by
  have H : Hid (Calls Try.prog 25 #[.slice a l c, .slice b 2 d] w fun e w' => NatOut a p w e w') := h
  clear h
  go_enter Try.func22, Try.ntmps22
  go_wp2_with fail
  refine H.out.mono ?_
  rintro e w1 ⟨g, k, c', cur, rfl, h1, h2, h3, h4, h5, h6, h7⟩
  have HH : Hid (NatOut a p w (.returned (.slice (some ⟨g, 0, none⟩) k c')) w1) := ⟨g, k, c', cur, rfl, h1, h2, h3, h4, h5, h6, h7⟩
  clear h1 h2 h3 h4 h5 h6 h7
  go_wp2
  go_ret
  exact HH.out
set_option maxHeartbeats 400000 in
theorem nsub_00 (a b b' : Option Addr) (l c d d' : Nat) (w : World) :
    Calls Try.prog 24 #[.slice a l c, .slice b 0 d, .slice b' 0 d'] w fun e w' => e = .returned (.slice a 0 c) ∧ w' = w := by
  go_enter Try.func24, Try.ntmps24
  go_wp2
  go_ret
  exact ⟨rfl, rfl⟩
set_option maxHeartbeats 400000 in
theorem nsub_10 (a b b' : Option Addr) (l c d d' : Nat) (w : World) (p : List Int → Nat → Prop) (h : Calls Try.prog 25 #[.slice a l c, .slice b 1 d] w fun e w' => NatOut a p w e w') :
    Calls Try.prog 24 #[.slice a l c, .slice b 1 d, .slice b' 0 d'] w fun e w' => NatOut a p w e w' := by
  have H : Hid (Calls Try.prog 25 #[.slice a l c, .slice b 1 d] w fun e w' => NatOut a p w e w') := h
  clear h
  go_enter Try.func24, Try.ntmps24
  go_wp2_with fail
  refine H.out.mono ?_
  rintro e w1 ⟨g, k, c', cur, rfl, h1, h2, h3, h4, h5, h6, h7⟩
  have HH : Hid (NatOut a p w (.returned (.slice (some ⟨g, 0, none⟩) k c')) w1) := ⟨g, k, c', cur, rfl, h1, h2, h3, h4, h5, h6, h7⟩
  clear h1 h2 h3 h4 h5 h6 h7
  go_wp2
  go_ret
  exact HH.out
set_option maxHeartbeats 400000 in
theorem nsub_20 (a b b' : Option Addr) (l c d d' : Nat) (w : World) (p : List Int → Nat → Prop) (h : Calls Try.prog 25 #[.slice a l c, .slice b 2 d] w fun e w' => NatOut a p w e w') :
    Calls Try.prog 24 #[.slice a l c, .slice b 2 d, .slice b' 0 d'] w fun e w' => NatOut a p w e w' := by
  have H : Hid (Calls Try.prog 25 #[.slice a l c, .slice b 2 d] w fun e w' => NatOut a p w e w') := h
  clear h
  go_enter Try.func24, Try.ntmps24
  go_wp2_with fail
  refine H.out.mono ?_
  rintro e w1 ⟨g, k, c', cur, rfl, h1, h2, h3, h4, h5, h6, h7⟩
  have HH : Hid (NatOut a p w (.returned (.slice (some ⟨g, 0, none⟩) k c')) w1) := ⟨g, k, c', cur, rfl, h1, h2, h3, h4, h5, h6, h7⟩
  clear h1 h2 h3 h4 h5 h6 h7
  go_wp2
  go_ret
  exact HH.out

set_option maxHeartbeats 400000 in
theorem nadd_swap (a b b' : Option Addr) (l c m d n d' : Nat) (v : Int) (w : World) (hmn : m < n) (h : Calls Try.prog 22 #[.slice a l c, .slice b' n d', .slice b m d] w fun e w' => NatRes a v w e w') :
    Calls Try.prog 22 #[.slice a l c, .slice b m d, .slice b' n d'] w fun e w' => NatRes a v w e w' := by
  have H : Hid (Calls Try.prog 22 #[.slice a l c, .slice b' n d', .slice b m d] w fun e w' => NatRes a v w e w') := h
  have hmn' : (m : Int) < (n : Int) := by omega
  clear h
  go_enter Try.func22, Try.ntmps22
  go_wp2_with fail
  refine H.out.mono ?_
  rintro e w1 ⟨a', k, c', zs, rfl, h1, h2, h3, h4⟩
  have HH : Hid (NatRes a v w (.returned (.slice a' k c')) w1) := ⟨a', k, c', zs, rfl, h1, h2, h3, h4⟩
  clear h1 h2 h3 h4
  go_wp2
  go_ret
  exact HH.out

theorem res_zero {a : Option Addr} {c : Nat} {w : World} (hz : ZIs w a c) : NatRes a 0 w (.returned (.slice a 0 c)) w := by
  refine ⟨a, 0, c, [], rfl, ⟨rfl, ⟨by simp, fun i => by simp, .inl rfl⟩, Nat.zero_le _, ?_⟩, rfl, World.grownBy.refl _ _, .inl rfl⟩
  rcases hz with h | ⟨g, cur, h1, h2, h3, h4⟩
  · exact .inl h
  · exact .inr ⟨g, cur, h1, h2, h3, h4, by simp⟩

theorem words2 {a b : Int} (h1 : 0 ≤ a ∧ a ≤ 18446744073709551615) (h2 : 0 ≤ b ∧ b ≤ 18446744073709551615) : Words [a, b] := fun i => by
  match i with
  | 0 => exact h1
  | 1 => exact h2
  | _ + 2 => simp
theorem words3 {a b c : Int} (h1 : 0 ≤ a ∧ a ≤ 18446744073709551615) (h2 : 0 ≤ b ∧ b ≤ 18446744073709551615) (h3 : 0 ≤ c ∧ c ≤ 18446744073709551615) : Words [a, b, c] := fun i => by
  match i with
  | 0 => exact h1
  | 1 => exact h2
  | 2 => exact h3
  | _ + 3 => simp
theorem words1 {a : Int} (h1 : 0 ≤ a ∧ a ≤ 18446744073709551615) : Words [a] := fun i => by
  match i with
  | 0 => exact h1
  | _ + 1 => simp

theorem nadd_ge (a b b' : Option Addr) (l c m d n d' : Nat) (xs ys : List Int) (w : World) (hz : ZIs w a c) (hx : NatIs w b m d xs) (hy : NatIs w b' n d' ys) (hmn : n ≤ m) (hs : val xs + val ys ≤ 340282366920938463463374607431768211455) :
    Calls Try.prog 22 #[.slice a l c, .slice b m d, .slice b' n d'] w fun e w' => NatRes a (val xs + val ys) w e w' := by
  have hxl := hx.1
  have hyl := hy.1
  have hxd := hx.2.2.1
  have hyd := hy.2.2.1
  rcases norm2_cases hx.2.1 with rfl | ⟨x0, rfl, p1, p2⟩ | ⟨x0, x1, rfl, p1, p2, p3, p4⟩
  · obtain rfl : m = 0 := by simpa using hxl.symm
    obtain rfl : n = 0 := by omega
    obtain rfl : ys = [] := List.eq_nil_of_length_eq_zero hyl
    refine (nadd_00 a b b' l c d d' w).mono ?_
    rintro e w' ⟨rfl, rfl⟩
    exact res_zero hz
  · obtain rfl : m = 1 := by simpa using hxl.symm
    obtain ⟨gx, rfl, ⟨xc, hxc⟩, hcx⟩ := hx.row (by omega)
    have k0 : w.cell? ⟨gx, 0, none⟩ = some (.int .u64 x0) := hcx 0 (by omega)
    rcases norm2_cases hy.2.1 with rfl | ⟨y0, rfl, q1, q2⟩ | ⟨y0, y1, rfl, q1, q2, q3, q4⟩
    · obtain rfl : n = 0 := by simpa using hyl.symm
      rw [show val [x0] + val [] = val [x0] from Int.add_zero _]
      refine (nadd_10 a _ b' l c d d' w _ (set1 a l c gx d x0 w hz k0)).mono ?_
      intro e w' h
      exact res_set hz h rfl hx.2.1
    · obtain rfl : n = 1 := by simpa using hyl.symm
      obtain ⟨gy, rfl, _, hcy⟩ := hy.row (by omega)
      have j0 : w.cell? ⟨gy, 0, none⟩ = some (.int .u64 y0) := hcy 0 (by omega)
      refine (nadd11 a l c gx d gy d' x0 y0 w hz k0 j0 (by omega) (by omega) (by omega) (by omega)).mono ?_
      intro e w' h
      have e1 := lo_word (x0 + y0)
      have e2 := hi_01' (x := x0) (y := y0) (by omega) (by omega) p2 q2
      refine res_of hz h rfl (words2 e1 (by omega)) (by omega) (by omega) ?_
      rw [val_two, val_one, val_one]; unfold lo hi; omega
    · exfalso; simp at hyl; omega
  · obtain rfl : m = 2 := by simpa using hxl.symm
    obtain ⟨gx, rfl, ⟨xc, hxc⟩, hcx⟩ := hx.row (by omega)
    have k0 : w.cell? ⟨gx, 0, none⟩ = some (.int .u64 x0) := hcx 0 (by omega)
    have k1 : w.cell? ⟨gx, 1, none⟩ = some (.int .u64 x1) := hcx 1 (by omega)
    rcases norm2_cases hy.2.1 with rfl | ⟨y0, rfl, q1, q2⟩ | ⟨y0, y1, rfl, q1, q2, q3, q4⟩
    · obtain rfl : n = 0 := by simpa using hyl.symm
      rw [show val [x0, x1] + val [] = val [x0, x1] from Int.add_zero _]
      refine (nadd_20 a _ b' l c d d' w _ (set2 a l c gx d x0 x1 w hz k0 k1)).mono ?_
      intro e w' h
      exact res_set hz h rfl hx.2.1
    · obtain rfl : n = 1 := by simpa using hyl.symm
      obtain ⟨gy, rfl, _, hcy⟩ := hy.row (by omega)
      have j0 : w.cell? ⟨gy, 0, none⟩ = some (.int .u64 y0) := hcy 0 (by omega)
      rw [val_two, val_one] at hs
      have e1 := lo_word (x0 + y0)
      have e2 := hi_01' (x := x0) (y := y0) p1 (by omega) p2 q2
      have e3 : x1 + hi (x0 + y0) ≤ 18446744073709551615 := by unfold hi; omega
      refine (nadd21 a l c gx d gy d' x0 x1 y0 w hz k0 k1 j0 (by omega) (by omega) xc hxc p1 (by omega) (by omega) e3 p2 q2).mono ?_
      intro e w' h
      refine res_of hz h rfl (words3 e1 (by omega) (by omega)) (by omega) (fun _ => rfl) ?_
      rw [val_two, val_one, val_three]; unfold lo hi; omega
    · obtain rfl : n = 2 := by simpa using hyl.symm
      obtain ⟨gy, rfl, _, hcy⟩ := hy.row (by omega)
      have j0 : w.cell? ⟨gy, 0, none⟩ = some (.int .u64 y0) := hcy 0 (by omega)
      have j1 : w.cell? ⟨gy, 1, none⟩ = some (.int .u64 y1) := hcy 1 (by omega)
      rw [val_two, val_two] at hs
      have e1 := lo_word (x0 + y0)
      have e2 := hi_01' (x := x0) (y := y0) p1 q1 p2 q2
      have e3 := lo_word (x1 + y1 + hi (x0 + y0))
      have e4 : hi (x1 + y1 + hi (x0 + y0)) = 0 := by unfold hi; omega
      refine (nadd22 a l c gx d gy d' x0 x1 y0 y1 w hz k0 k1 j0 j1 (by omega) (by omega) p1 (by omega) q1 (by omega) p2 q2).mono ?_
      intro e w' h
      rw [e4] at h
      refine res_of hz h rfl (words3 e1 e3 (by omega)) (by omega) (fun _ => rfl) ?_
      rw [val_two, val_two, val_three]; unfold lo hi; omega

theorem nadd_any (a b b' : Option Addr) (l c m d n d' : Nat) (xs ys : List Int) (w : World) (hz : ZIs w a c) (hx : NatIs w b m d xs) (hy : NatIs w b' n d' ys) (hs : val xs + val ys ≤ 340282366920938463463374607431768211455) :
    Calls Try.prog 22 #[.slice a l c, .slice b m d, .slice b' n d'] w fun e w' => NatRes a (val xs + val ys) w e w' := by
  by_cases h : n ≤ m
  · exact nadd_ge a b b' l c m d n d' xs ys w hz hx hy h hs
  · refine nadd_swap a b b' l c m d n d' _ w (by omega) ?_
    rw [Int.add_comm]
    exact nadd_ge a b' b l c n d' m d ys xs w hz hy hx (by omega) (by omega)

theorem nsub_any (a b b' : Option Addr) (l c m d n d' : Nat) (xs ys : List Int) (w : World) (hz : ZIs w a c) (hx : NatIs w b m d xs) (hy : NatIs w b' n d' ys) (hs : val ys ≤ val xs) :
    Calls Try.prog 24 #[.slice a l c, .slice b m d, .slice b' n d'] w fun e w' => NatRes a (val xs - val ys) w e w' := by
  have hxl := hx.1
  have hyl := hy.1
  have hxd := hx.2.2.1
  have hyd := hy.2.2.1
  have hx0' := val_nonneg hx.2.1
  rcases norm2_cases hx.2.1 with rfl | ⟨x0, rfl, p1, p2⟩ | ⟨x0, x1, rfl, p1, p2, p3, p4⟩
  · obtain rfl : m = 0 := by simpa using hxl.symm
    have hz0 : ys = [] := by
      rcases norm2_cases hy.2.1 with rfl | ⟨y0, rfl, q1, q2⟩ | ⟨y0, y1, rfl, q1, q2, q3, q4⟩
      · rfl
      · rw [val_one] at hs; simp [val] at hs; omega
      · rw [val_two] at hs; simp [val] at hs; omega
    subst hz0
    obtain rfl : n = 0 := by simpa using hyl.symm
    refine (nsub_00 a b b' l c d d' w).mono ?_
    rintro e w' ⟨rfl, rfl⟩
    exact res_zero hz
  · obtain rfl : m = 1 := by simpa using hxl.symm
    obtain ⟨gx, rfl, ⟨xc, hxc⟩, hcx⟩ := hx.row (by omega)
    have k0 : w.cell? ⟨gx, 0, none⟩ = some (.int .u64 x0) := hcx 0 (by omega)
    rcases norm2_cases hy.2.1 with rfl | ⟨y0, rfl, q1, q2⟩ | ⟨y0, y1, rfl, q1, q2, q3, q4⟩
    · obtain rfl : n = 0 := by simpa using hyl.symm
      rw [show val [x0] - val [] = val [x0] from Int.sub_zero _]
      refine (nsub_10 a _ b' l c d d' w _ (set1 a l c gx d x0 w hz k0)).mono ?_
      intro e w' h
      exact res_set hz h rfl hx.2.1
    · obtain rfl : n = 1 := by simpa using hyl.symm
      obtain ⟨gy, rfl, _, hcy⟩ := hy.row (by omega)
      have j0 : w.cell? ⟨gy, 0, none⟩ = some (.int .u64 y0) := hcy 0 (by omega)
      rw [val_one, val_one] at hs ⊢
      refine (nsub11 a l c gx d gy d' x0 y0 w hz k0 j0 (by omega) (by omega) (by omega) (by omega) q2 (by unfold bor; rw [if_neg (by omega)])).mono ?_
      intro e w' h
      refine res_of hz h rfl (words1 (lo_word _)) (by omega) (by omega) ?_
      rw [val_one]; unfold lo; omega
    · rw [val_one, val_two] at hs; omega
  · obtain rfl : m = 2 := by simpa using hxl.symm
    obtain ⟨gx, rfl, ⟨xc, hxc⟩, hcx⟩ := hx.row (by omega)
    have k0 : w.cell? ⟨gx, 0, none⟩ = some (.int .u64 x0) := hcx 0 (by omega)
    have k1 : w.cell? ⟨gx, 1, none⟩ = some (.int .u64 x1) := hcx 1 (by omega)
    rcases norm2_cases hy.2.1 with rfl | ⟨y0, rfl, q1, q2⟩ | ⟨y0, y1, rfl, q1, q2, q3, q4⟩
    · obtain rfl : n = 0 := by simpa using hyl.symm
      rw [show val [x0, x1] - val [] = val [x0, x1] from Int.sub_zero _]
      refine (nsub_20 a _ b' l c d d' w _ (set2 a l c gx d x0 x1 w hz k0 k1)).mono ?_
      intro e w' h
      exact res_set hz h rfl hx.2.1
    · obtain rfl : n = 1 := by simpa using hyl.symm
      obtain ⟨gy, rfl, _, hcy⟩ := hy.row (by omega)
      have j0 : w.cell? ⟨gy, 0, none⟩ = some (.int .u64 y0) := hcy 0 (by omega)
      have e2 := bor_01 x0 y0
      refine (nsub21 a l c gx d gy d' x0 x1 y0 w hz k0 k1 j0 (by omega) (by omega) xc hxc p1 (by omega) (by omega) q2 (by omega) p4).mono ?_
      intro e w' h
      refine res_of hz h rfl (words2 (lo_word _) (by omega)) (by omega) (by omega) ?_
      rw [val_two, val_two, val_one]; unfold lo bor; split <;> omega
    · obtain rfl : n = 2 := by simpa using hyl.symm
      obtain ⟨gy, rfl, _, hcy⟩ := hy.row (by omega)
      have j0 : w.cell? ⟨gy, 0, none⟩ = some (.int .u64 y0) := hcy 0 (by omega)
      have j1 : w.cell? ⟨gy, 1, none⟩ = some (.int .u64 y1) := hcy 1 (by omega)
      rw [val_two, val_two] at hs
      have e3 : bor x1 (y1 + bor x0 y0) = 0 := by unfold bor; split <;> split <;> omega
      refine (nsub22 a l c gx d gy d' x0 x1 y0 y1 w hz k0 k1 j0 j1 (by omega) (by omega) p1 (by omega) q1 (by omega) q2 q4 e3).mono ?_
      intro e w' h
      refine res_of hz h rfl (words2 (lo_word _) (lo_word _)) (by omega) (by omega) ?_
      rw [val_two, val_two, val_two]; unfold lo bor; split <;> omega

/-- nat.cmp, whole. -/
theorem ncmp_any (a b : Option Addr) (m c n d : Nat) (xs ys : List Int) (w : World) (hx : NatIs w a m c xs) (hy : NatIs w b n d ys) :
    Calls Try.prog 23 #[.slice a m c, .slice b n d] w fun e w' => e = .returned (.int .i64 (cmpI (val xs) (val ys))) ∧ ∃ q, w' = w.drewN q := by
  have hxl := hx.1
  have hyl := hy.1
  rcases norm2_cases hx.2.1 with rfl | ⟨x0, rfl, p1, p2⟩ | ⟨x0, x1, rfl, p1, p2, p3, p4⟩ <;> rcases norm2_cases hy.2.1 with rfl | ⟨y0, rfl, q1, q2⟩ | ⟨y0, y1, rfl, q1, q2, q3, q4⟩
  · obtain rfl : m = 0 := by simpa using hxl.symm
    obtain rfl : n = 0 := by simpa using hyl.symm
    exact cmp_00 a b c d w
  · rw [show cmpI (val []) (val [y0]) = -1 by rw [val_one]; simp [cmpI, val]; omega]
    exact cmp_lt a b m n c d w (by simp at hxl hyl; omega)
  · rw [show cmpI (val []) (val [y0, y1]) = -1 by rw [val_two]; simp [cmpI, val]; omega]
    exact cmp_lt a b m n c d w (by simp at hxl hyl; omega)
  · rw [show cmpI (val [x0]) (val []) = 1 by rw [val_one]; simp [cmpI, val]; omega]
    exact cmp_gt a b m n c d w (by simp at hxl hyl; omega)
  · obtain rfl : m = 1 := by simpa using hxl.symm
    obtain rfl : n = 1 := by simpa using hyl.symm
    obtain ⟨gx, rfl, _, hcx⟩ := hx.row (by omega)
    obtain ⟨gy, rfl, _, hcy⟩ := hy.row (by omega)
    rw [val_one, val_one]
    exact cmp_11 gx gy c d x0 y0 w (hcx 0 (by omega)) (hcy 0 (by omega))
  · rw [show cmpI (val [x0]) (val [y0, y1]) = -1 by rw [val_one, val_two]; unfold cmpI; rw [if_pos (by omega)]]
    exact cmp_lt a b m n c d w (by simp at hxl hyl; omega)
  · rw [show cmpI (val [x0, x1]) (val []) = 1 by rw [val_two]; simp [cmpI, val]; omega]
    exact cmp_gt a b m n c d w (by simp at hxl hyl; omega)
  · rw [show cmpI (val [x0, x1]) (val [y0]) = 1 by rw [val_one, val_two]; unfold cmpI; rw [if_neg (by omega), if_pos (by omega)]]
    exact cmp_gt a b m n c d w (by simp at hxl hyl; omega)
  · obtain rfl : m = 2 := by simpa using hxl.symm
    obtain rfl : n = 2 := by simpa using hyl.symm
    obtain ⟨gx, rfl, _, hcx⟩ := hx.row (by omega)
    obtain ⟨gy, rfl, _, hcy⟩ := hy.row (by omega)
    rw [show cmpI (val [x0, x1]) (val [y0, y1]) = cmp2 x0 x1 y0 y1 by rw [val_two, val_two]; unfold cmp2 cmpI; (repeat' split) <;> omega]
    exact cmp_22 gx gy c d x0 x1 y0 y1 w (hcx 0 (by omega)) (hcy 0 (by omega)) (hcx 1 (by omega)) (hcy 1 (by omega))

end Go.Proofs.Qxb6627829a
