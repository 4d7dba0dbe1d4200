/-
  big.NewInt; Add as a whole.
-/
import Derived.Test.Qxb6627829aIntSub
namespace Go.Proofs.Qxb6627829a
open Go.RowKit

set_option maxHeartbeats 800000 in
theorem newInt_zero (w : World) :
    Calls Try.prog 15 #[.int .i64 0] w fun e w' => e = .returned (.pointer (some ⟨w.heap.size, 0, none⟩)) ∧ w' = w.alloc (.cells #[.bool false, .slice none 0 0] 68) := by
  go_enter Try.func15, Try.ntmps15
  go_wp2
  go_ret
  exact ⟨rfl, rfl⟩

set_option maxHeartbeats 800000 in
theorem newInt_pos (x : Int) (w : World) (h : 0 < x) (h2 : x ≤ 9223372036854775807) :
    Calls Try.prog 15 #[.int .i64 x] w fun e w' => e = .returned (.pointer (some ⟨w.heap.size + 1, 0, none⟩)) ∧ w' = (w.alloc (.cells #[.int .u64 x] 38)).alloc (.cells #[.bool false, .slice (some ⟨w.heap.size, 0, none⟩) 1 1] 68) := by
  have h0 : (x == 0) = false := by rw [beq_eq_false_iff_ne]; omega
  have h1 : decide (x < 0) = false := decide_eq_false (by omega)
  go_enter Try.func15, Try.ntmps15
  go_wp2
  go_ret
  exact ⟨rfl, rfl⟩

theorem wneg (x : Int) (h : x < 0) (h2 : -9223372036854775808 ≤ x) : IntKind.u64.wrap (-IntKind.u64.wrap x) = -x := by
  rw [IntKind.wrap_u64, IntKind.wrap_u64]; omega

set_option maxHeartbeats 800000 in
theorem newInt_neg (x : Int) (w : World) (h : x < 0) (h2 : -9223372036854775808 ≤ x) :
    Calls Try.prog 15 #[.int .i64 x] w fun e w' => e = .returned (.pointer (some ⟨w.heap.size + 1, 0, none⟩)) ∧ w' = (w.alloc (.cells #[.int .u64 (-x)] 38)).alloc (.cells #[.bool true, .slice (some ⟨w.heap.size, 0, none⟩) 1 1] 68) := by
  have h0 : (x == 0) = false := by rw [beq_eq_false_iff_ne]; omega
  have h1 : decide (x < 0) = true := decide_eq_true h
  go_enter Try.func15, Try.ntmps15
  go_wp2
  go_ret
  exact ⟨rfl, by rw [wneg x h h2]⟩

theorem newInt_any (x : Int) (w : World) (h1 : -9223372036854775808 ≤ x) (h2 : x ≤ 9223372036854775807) :
    Calls Try.prog 15 #[.int .i64 x] w fun e w' => ∃ p, e = .returned (.pointer (some ⟨p, 0, none⟩)) ∧ BigAt w.heap.size w' p x ∧ Below w.heap.size w w' := by
  have one : ∀ v : Int, 0 < v → v ≤ 9223372036854775808 → Norm2 [v] := fun v g1 g2 => ⟨by simp, fun i => by
    match i with
    | 0 => simp; omega
    | _ + 1 => simp, .inr (by simp; omega)⟩
  have big : ∀ (v : Int) (b : Bool), 0 < v → v ≤ 9223372036854775808 → BigAt w.heap.size ((w.alloc (.cells #[.int .u64 v] 38)).alloc (.cells #[.bool b, .slice (some ⟨w.heap.size, 0, none⟩) 1 1] 68)) (w.heap.size + 1) (sgn b v) := fun v b g1 g2 => by
    have s1 : (w.alloc (.cells #[.int .u64 v] 38)).heap.size = w.heap.size + 1 := by simp
    refine ⟨b, some ⟨w.heap.size, 0, none⟩, 1, 1, [v], ?_, ⟨rfl, one v g1 g2, Nat.le_refl _, .inr ⟨w.heap.size, [v], rfl, ?_, rfl, by omega, rfl⟩⟩, by rw [val_one], fun _ => by omega, by omega, fun g hg => by simp [zrow] at hg; omega⟩
    · rw [← s1]; exact heap_alloc_new _ _
    · unfold RowAt; rw [Below.heap_alloc _ _ _ (by omega)]; exact heap_alloc_new w _
  have bel : ∀ (v : Int) (b : Bool), Below w.heap.size w ((w.alloc (.cells #[.int .u64 v] 38)).alloc (.cells #[.bool b, .slice (some ⟨w.heap.size, 0, none⟩) 1 1] 68)) := fun v b => ((Below.refl _ _).alloc (Nat.le_refl _) _).alloc (by simp) _
  rcases (show x < 0 ∨ x = 0 ∨ 0 < x by omega) with h | rfl | h
  · refine (newInt_neg x w h h1).mono ?_
    rintro e w' ⟨rfl, rfl⟩
    refine ⟨_, rfl, ?_, bel _ _⟩
    have := big (-x) true (by omega) (by omega)
    rw [show sgn true (-x) = x by simp [sgn]] at this
    exact this
  · refine (newInt_zero w).mono ?_
    rintro e w' ⟨rfl, rfl⟩
    refine ⟨_, rfl, ⟨false, none, 0, 0, [], heap_alloc_new w _, ⟨rfl, ⟨by simp, fun i => by simp, .inl rfl⟩, Nat.le_refl _, .inl ⟨rfl, rfl⟩⟩, rfl, fun h => (by cases h), Nat.le_refl _, fun g hg => by simp [zrow] at hg⟩, (Below.refl _ _).alloc (Nat.le_refl _) _⟩
  · refine (newInt_pos x w h h2).mono ?_
    rintro e w' ⟨rfl, rfl⟩
    refine ⟨_, rfl, ?_, bel _ _⟩
    have := big x false h (by omega)
    rw [show sgn false x = x by simp [sgn]] at this
    exact this

/-- The world behind Add. -/
theorem big_of {B p : Nat} {neg nb : Bool} {ao a' : Option Addr} {n c k c' m : Nat} {xs zs : List Int} {w w2 : World} {V : Int} (hp : w.heap[p]? = some (.cells #[.bool neg, .slice ao n c] 68 (0, 0))) (hx : NatIs w ao n c xs) (hB : B ≤ p) (hr : ∀ g, zrow ao = some g → B ≤ g)
    (h1 : NatIs w2 a' k c' zs) (h3 : w.grownBy w2 (zrow ao)) (h4 : a' = ao ∨ zrow a' = some w.heap.size) (hV : V = sgn (decide (0 < k) && nb) (val zs)) :
    BigAt B (((w2.setCell ⟨p, 1, none⟩ (.slice a' k c')).setCell ⟨p, 0, none⟩ (.bool (decide (0 < k) && nb))).drewN m) p V ∧ Below B w (((w2.setCell ⟨p, 1, none⟩ (.slice a' k c')).setCell ⟨p, 0, none⟩ (.bool (decide (0 < k) && nb))).drewN m) := by
  have hpl := lt_of_block hp
  have hp2 : w2.heap[p]? = some (.cells #[.bool neg, .slice ao n c] 68 (0, 0)) := (h3.block p hpl (hx.not hp)).trans hp
  have e1 := heap_setCell_row hp2 1 (.slice a' k c')
  have e2 := heap_setCell_row e1 0 (.bool (decide (0 < k) && nb))
  refine ⟨⟨decide (0 < k) && nb, a', k, c', zs, ?_, ?_, hV, fun h => ?_, hB, fun g hg => ?_⟩, ?_⟩
  · exact e2
  · obtain ⟨g1, g2, g3, g4⟩ := h1
    refine ⟨g1, g2, g3, ?_⟩
    rcases g4 with g4 | ⟨g, cur, r1, r2, r3⟩
    · exact .inl g4
    · have hne : ¬ g = p := by
        intro e
        subst e
        unfold RowAt at r2
        rw [hp2] at r2
        simp at r2
      exact .inr ⟨g, cur, r1, ((r2.other hne _).other hne _).drewN m, r3⟩
  · simp at h; exact h.1
  · rcases h4 with rfl | h4
    · exact hr g hg
    · rw [h4] at hg; simp at hg; omega
  · refine ⟨h3.os, h3.tape, h3.output, ?_, fun j hj => ?_⟩
    · have := h3.size
      show w.heap.size ≤ ((w2.setCell ⟨p, 1, none⟩ (.slice a' k c')).setCell ⟨p, 0, none⟩ (.bool (decide (0 < k) && nb))).heap.size
      simp [World.setCell]; exact this
    · show ((w2.setCell ⟨p, 1, none⟩ (.slice a' k c')).setCell ⟨p, 0, none⟩ (.bool (decide (0 < k) && nb))).heap[j]? = _
      rw [Below.heap_setCell _ _ _ _ (by simp; omega), Below.heap_setCell _ _ _ _ (by simp; omega)]
      exact h3.block j (by omega) (fun e => by have := hr j e.symm; omega)

theorem sgn_abs {neg : Bool} {v V : Int} (h : V = sgn neg v) (hv : 0 ≤ v) : V.natAbs = v.toNat := by
  subst h; unfold sgn; split <;> omega

theorem bigAdd (B B' p q : Nat) (V1 V2 : Int) (w : World) (h1 : BigAt B w p V1) (h2 : BigAt B' w q V2) (hs : (V1.natAbs : Int) + V2.natAbs ≤ 340282366920938463463374607431768211455) :
    Calls Try.prog 13 #[.pointer (some ⟨p, 0, none⟩), .pointer (some ⟨p, 0, none⟩), .pointer (some ⟨q, 0, none⟩)] w fun e w' => e = .returned (.pointer (some ⟨p, 0, none⟩)) ∧ BigAt B w' p (V1 + V2) ∧ Below B w w' := by
  obtain ⟨neg, ao, n, c, xs, hp, hx, e1, m1, hB, hr⟩ := h1
  obtain ⟨neg2, bo, n2, c2, ys, hq, hy, e2, m2, _, _⟩ := h2
  have vx := val_nonneg hx.2.1
  have vy := val_nonneg hy.2.1
  have s1 := sgn_abs e1 vx
  have s2 := sgn_abs e2 vy
  by_cases hn : neg2 = neg
  · subst hn
    refine (add_same p q neg2 ao bo n c n2 c2 xs ys w hp hq hx hy (by omega)).mono ?_
    rintro e w' ⟨rfl, a', k, c', zs, w2, h1, h2, h3, h4, m, rfl⟩
    refine ⟨rfl, big_of hp hx hB hr h1 h3 h4 ?_⟩
    by_cases hk : 0 < k
    · rw [e1, e2, h2]; simp only [hk, decide_true, Bool.true_and]; unfold sgn; split <;> omega
    · have hz : zs = [] := List.eq_nil_of_length_eq_zero (by have := h1.1; omega)
      subst hz
      simp only [val] at h2
      have g1 : val xs = 0 := by omega
      have g2 : val ys = 0 := by omega
      rw [e1, e2, g1, g2]; simp [sgn, val, hk]
  · have hn' : neg2 = !neg := by cases neg <;> cases neg2 <;> simp_all
    subst hn'
    by_cases hge : val ys ≤ val xs
    · refine (add_ge p q neg ao bo n c n2 c2 xs ys w hp hq hx hy hge).mono ?_
      rintro e w' ⟨rfl, a', k, c', zs, w2, h1, h2, h3, h4, m, rfl⟩
      refine ⟨rfl, big_of hp hx hB hr h1 h3 h4 ?_⟩
      by_cases hk : 0 < k
      · rw [e1, e2, h2]; simp only [hk, decide_true, Bool.true_and]; cases neg <;> simp [sgn] <;> omega
      · have hz : zs = [] := List.eq_nil_of_length_eq_zero (by have := h1.1; omega)
        subst hz
        simp only [val] at h2
        have g1 : val xs = val ys := by omega
        rw [e1, e2, g1]; cases neg <;> simp [sgn, val, hk] <;> omega
    · refine (add_lt p q neg ao bo n c n2 c2 xs ys w hp hq hx hy (by omega)).mono ?_
      rintro e w' ⟨rfl, a', k, c', zs, w2, h1, h2, h3, h4, m, rfl⟩
      refine ⟨rfl, big_of hp hx hB hr h1 h3 h4 ?_⟩
      have hk : 0 < k := by
        by_cases hk : 0 < k
        · exact hk
        · exfalso
          have hz : zs = [] := List.eq_nil_of_length_eq_zero (by have := h1.1; omega)
          subst hz
          simp only [val] at h2
          omega
      rw [e1, e2, h2]; simp only [hk, decide_true, Bool.true_and]; cases neg <;> simp [sgn] <;> omega

end Go.Proofs.Qxb6627829a
