/-
  The closure that Prune hands to brackets: what one event does.
-/
import Derived.Test.Qxb6627783aModel
import Derived.Deep.RegionLaw
import Derived.Deep.AppendLies
import Derived.Laws.EntriesVeiled
namespace Go.Proofs.Qxb6627783a
open Go.RowKit

/-- Prune's own four variables (blocks B to B + 3: data, depth, pruned, from) and the row that 'pruned' owns. -/
structure Inv (B : Nat) (w0 w : World) (a : Option Addr) (n c : Nat) (d f : Int) (xs : List Int) : Prop where
  bd : w.heap[B]? = some (.cells #[.slice a n c] 22 (0, 0))
  bp : w.heap[B + 1]? = some (.cells #[.int .i64 d] 3 (0, 0))
  pr : ∃ ao cap, w.heap[B + 2]? = some (.cells #[.slice ao xs.length cap] 22 (0, 0)) ∧ w.ownsRow (B + 4) 5 1 (.slice ao xs.length cap) xs.length (byteCells xs)
  fr : w.heap[B + 3]? = some (.cells #[.int .i64 f] 3 (0, 0))
  sz : B + 4 ≤ w.heap.size
  bel : Below B w0 w

theorem heap_setCell_one {w : World} {B k : Nat} {v u : Value} {t : TypeId} (h : w.heap[k]? = some (.cells #[v] t (0, 0))) : (w.setCell ⟨B, 0, none⟩ u).heap[k]? = if k = B then some (.cells #[u] t (0, 0)) else some (.cells #[v] t (0, 0)) := by
  by_cases hk : k = B
  · subst hk
    rw [if_pos rfl]
    exact one_setCell h
  · rw [if_neg hk, Below.heap_setCell _ _ _ _ (by simpa using hk)]
    exact h

theorem Inv.setFrom {B : Nat} {w0 w : World} {a : Option Addr} {n c : Nat} {d f : Int} {xs : List Int} (h : Inv B w0 w a n c d f xs) (g : Int) : Inv B w0 (w.setCell ⟨B + 3, 0, none⟩ (.int .i64 g)) a n c d g xs := by
  obtain ⟨ao, cap, h3, h4⟩ := h.pr
  refine ⟨?_, ?_, ⟨ao, cap, ?_, ownsRow_setCell_below h4 (by simp) _⟩, ?_, by simpa [World.setCell] using h.sz, h.bel.setCell (by simp) _⟩
  · rw [heap_setCell_one h.bd, if_neg (by omega)]
  · rw [heap_setCell_one h.bp, if_neg (by omega)]
  · rw [heap_setCell_one h3, if_neg (by omega)]
  · rw [heap_setCell_one h.fr, if_pos rfl]

theorem Inv.grown {B : Nat} {w0 w w1 : World} {a : Option Addr} {n c g cap' : Nat} {d f : Int} {xs ys : List Int} {ao : Option Addr} {cap m : Nat} (hm : ys.length = m) (h : Inv B w0 w a n c d f xs)
    (ho : w.ownsRow (B + 4) 5 1 (.slice ao xs.length cap) xs.length (byteCells xs))
    (hown : w1.ownsRow (B + 4) 5 1 (.slice (some ⟨g, 0, none⟩) (xs.length + m) cap') (xs.length + m) (byteCells xs ++ byteCells ys)) (hg : w.drew.grownBy w1 (Value.slice ao xs.length cap).ownBlock) :
    Inv B w0 (w1.setCell ⟨B + 2, 0, none⟩ (.slice (some ⟨g, 0, none⟩) (xs.length + m) cap')) a n c d f (xs ++ ys) := by
  subst hm
  have hlt := ho.lt
  have keepB : ∀ k, k < B + 4 → w1.heap[k]? = w.heap[k]? := fun k hk => by
    have := hg.block k (by have := h.sz; show k < w.heap.size; omega) (fun e => by have := hlt k e.symm; omega)
    exact this
  obtain ⟨ao', cap'', h3, _⟩ := h.pr
  have e0 := (keepB B (by omega)).trans h.bd
  have e1 := (keepB (B + 1) (by omega)).trans h.bp
  have e2 := (keepB (B + 2) (by omega)).trans h3
  have e3 := (keepB (B + 3) (by omega)).trans h.fr
  refine ⟨?_, ?_, ⟨some ⟨g, 0, none⟩, cap', ?_, ?_⟩, ?_, ?_, ?_⟩
  · rw [heap_setCell_one e0, if_neg (by omega)]
  · rw [heap_setCell_one e1, if_neg (by omega)]
  · rw [heap_setCell_one e2, if_pos rfl, List.length_append]
  · rw [List.length_append, byteCells_append]
    exact ownsRow_setCell_below hown (by simp) _
  · rw [heap_setCell_one e3, if_neg (by omega)]
  · have h1 : w.heap.size ≤ w1.heap.size := hg.size
    have := h.sz
    simp [World.setCell]; omega
  · refine Below.setCell ?_ (by simp) _
    exact h.bel.trans ⟨hg.os, hg.tape, hg.output, hg.size, fun k hk => keepB k (by omega)⟩

/-- The cells of a stretch of the data. -/
theorem seg_cells {w : World} {b off n i f : Nat} {zs : List Int} (hv : ∀ i, i < n → w.cell? ⟨b, off + i, none⟩ = some (.int .u8 (zs.getD i 0))) (hz : zs.length = n) (hi : i ≤ n) :
    ∀ j u, (byteCells (seg zs f i))[j]? = some u → w.cell? ((⟨b, off + f, none⟩ : Addr).add j) = some u := by
  intro j u hu
  have hj : j < (seg zs f i).length := by
    have := (List.getElem?_eq_some_iff.1 hu).1
    simpa [byteCells] using this
  have hj' : f + j < i := by simp [seg] at hj; omega
  rw [Addr.add_lit, Nat.add_assoc, hv (f + j) (by omega)]
  simp [byteCells, seg, List.getElem?_drop, hj'] at hu
  obtain ⟨x, hx, rfl⟩ := hu
  simp [List.getD, hx]
theorem seg_length {zs : List Int} {f i : Nat} (hi : i ≤ zs.length) : (seg zs f i).length = i - f := by simp [seg]; omega

/-- An event at another level. -/
theorem closure_skip (B b off n c i : Nat) (d lv z : Int) (w : World) (hi : i < n) (ht : (lv != wrap64 (d + 1)) = true)
    (h0 : w.cell? ⟨B, 0, none⟩ = some (.slice (some ⟨b, off, none⟩) n c)) (h1 : w.cell? ⟨B + 1, 0, none⟩ = some (.int .i64 d)) (hc : w.cell? ⟨b, off + i, none⟩ = some (.int .u8 z)) :
    Calls Try.prog 12 #[.int .i64 i, .int .i64 lv, .pointer (some ⟨B, 0, none⟩), .pointer (some ⟨B + 1, 0, none⟩), .pointer (some ⟨B + 2, 0, none⟩), .pointer (some ⟨B + 3, 0, none⟩)] w
      fun e w' => e = .returned (.bool true) ∧ w' = w := by
  have hi' : (i : Int) < (n : Int) := by omega
  by_cases hz : z = 123
  · have b1 : (z == 123) = true := by simp [hz]
    clear hz
    go_enter Try.func12, Try.ntmps12
    go_wp2
    go_ret
    exact ⟨rfl, rfl⟩
  · have b1 : (z == 123) = false := by simp [hz]
    clear hz
    go_enter Try.func12, Try.ntmps12
    go_wp2
    go_ret
    exact ⟨rfl, rfl⟩

/-- A closing bracket at the level: copying starts anew. -/
theorem closure_shut (B b off n c i : Nat) (d lv z f0 : Int) (w : World) (hi : i < n) (ht : (lv != wrap64 (d + 1)) = false) (b1 : (z == 123) = false) (b2 : (z == 91) = false)
    (h0 : w.cell? ⟨B, 0, none⟩ = some (.slice (some ⟨b, off, none⟩) n c)) (h1 : w.cell? ⟨B + 1, 0, none⟩ = some (.int .i64 d)) (hc : w.cell? ⟨b, off + i, none⟩ = some (.int .u8 z))
    (h3 : w.cell? ⟨B + 3, 0, none⟩ = some (.int .i64 f0)) (f3 : w.frozen? ⟨B + 3, 0, none⟩ = false) :
    Calls Try.prog 12 #[.int .i64 i, .int .i64 lv, .pointer (some ⟨B, 0, none⟩), .pointer (some ⟨B + 1, 0, none⟩), .pointer (some ⟨B + 2, 0, none⟩), .pointer (some ⟨B + 3, 0, none⟩)] w
      fun e w' => e = .returned (.bool true) ∧ w' = w.setCell ⟨B + 3, 0, none⟩ (.int .i64 i) := by
  have hi' : (i : Int) < (n : Int) := by omega
  go_enter Try.func12, Try.ntmps12
  go_wp2
  go_ret
  exact ⟨rfl, rfl⟩

set_option maxHeartbeats 1600000 in
set_option maxRecDepth 100000 in
/-- An opening bracket at the level: what has been passed over is copied. -/
theorem closure_open (B b off n c i f : Nat) (d lv z : Int) (xs zs : List Int) (w w0 : World) (hi : i < n) (hn : n ≤ 1048576) (hnc : n ≤ c) (hf : f ≤ i) (hxs : xs.length ≤ 1048576) (ht : (lv != wrap64 (d + 1)) = false) (bz : (z == 123) = true ∨ (z == 123) = false ∧ (z == 91) = true)
    (hz : zs.length = n) (hI : Inv B w0 w (some ⟨b, off, none⟩) n c d f xs)
    (hcs : ∀ i, i < n → w.cell? ⟨b, off + i, none⟩ = some (.int .u8 (zs.getD i 0))) (hzi : z = zs.getD i 0) :
    Calls Try.prog 12 #[.int .i64 i, .int .i64 lv, .pointer (some ⟨B, 0, none⟩), .pointer (some ⟨B + 1, 0, none⟩), .pointer (some ⟨B + 2, 0, none⟩), .pointer (some ⟨B + 3, 0, none⟩)] w
      fun e w' => e = .returned (.bool true) ∧ Inv B w0 w' (some ⟨b, off, none⟩) n c d (-1) (xs ++ seg zs f (i + 1)) := by
  obtain ⟨ao, cap, h2, hown⟩ := hI.pr
  have hlt := hown.lt
  have c0 := cell_of_one hI.bd
  have c1 := cell_of_one hI.bp
  have c2 := cell_of_one h2
  have c3 := cell_of_one hI.fr
  have f2 := free_of_one h2
  have f3 := free_of_one hI.fr
  have hc := hcs i hi
  rw [← hzi] at hc
  have hsz := hI.sz
  have ne0 : some B ≠ (Value.slice ao xs.length cap).ownBlock := fun e => by have := hlt B e.symm; omega
  have ne2 : some (B + 2) ≠ (Value.slice ao xs.length cap).ownBlock := fun e => by have := hlt (B + 2) e.symm; omega
  have ne3 : some (B + 3) ≠ (Value.slice ao xs.length cap).ownBlock := fun e => by have := hlt (B + 3) e.symm; omega
  have NE : Hid (some B ≠ (Value.slice ao xs.length cap).ownBlock ∧ some (B + 2) ≠ (Value.slice ao xs.length cap).ownBlock ∧ some (B + 3) ≠ (Value.slice ao xs.length cap).ownBlock) := ⟨ne0, ne2, ne3⟩
  have HI : Hid (Inv B w0 w (some ⟨b, off, none⟩) n c d f xs) := hI
  have HO : Hid (w.ownsRow (B + 4) 5 1 (.slice ao xs.length cap) xs.length (byteCells xs)) := hown
  have hsl : (seg zs f (i + 1)).length = i + 1 - f := seg_length (by omega)
  obtain ⟨ys, eys⟩ : ∃ ys, ys = seg zs f (i + 1) := ⟨_, rfl⟩
  have HY : Hid (ys = seg zs f (i + 1)) := eys
  have HYl : Hid (ys.length = i + 1 - f) := by unfold Hid; rw [eys]; exact hsl
  have HYc : Hid (∀ j u, (byteCells ys)[j]? = some u → w.cell? ((⟨b, off + f, none⟩ : Addr).add j) = some u) := by
    unfold Hid; rw [eys]; exact seg_cells hcs hz (by omega)
  clear hI h2 hlt hown ne0 ne2 ne3 hsl eys hcs hzi hz
  rw [← HY.out]
  clear HY
  obtain ⟨i0, hi0, hz0, hz1, hz2⟩ := info_parts info5
  have hi' : (i : Int) < (n : Int) := by omega
  have hfi : (f : Int) ≤ (i : Int) + 1 := by omega
  have hfi0 : (0 : Int) ≤ (f : Int) := by omega
  have hic : (i : Int) + 1 ≤ (c : Int) := by omega
  have hfc : (f : Int) < (c : Int) := by omega
  have hw1 : IntKind.i64.wrap ((i : Int) + 1) = (i : Int) + 1 := by rw [IntKind.wrap_i64]; omega
  have hw2 : ((i : Int) + 1).toNat = i + 1 := by omega
  have hw3 : (0 : Int) ≤ (i : Int) + 1 := by omega
  have hcf : ¬ c = f := by omega
  rcases bz with b1 | ⟨b1, b2⟩
  · go_enter Try.func12, Try.ntmps12
    go_wp2
    go_region_law ((refine step_append_lies _ (by rfl) _ _ _ (by rfl) (B + 4) 5 i0 _ 1 1 Try.underlying22 hi0 hz0 hz1 hz2 rfl (by omega) (.slice ao xs.length cap) xs.length (byteCells xs) (by rfl) (HO.out.drew) ⟨b, off + f, none⟩ (i + 1 - f) (c - f) (byteCells ys) (by rfl) (by rw [← HYl.out]; simp [byteCells]) (HYc.out) (byteCells_one _) (by omega) (by unfold maxLen; omega) (by omega) (by simp; omega) w.heap.size (by simp) ?_; intro gg cap' w1 hown1 hgrow hat hlt; have q2 := (hgrow.cell_far ⟨B + 2, 0, none⟩ (by simp; omega) NE.out.2.1).trans c2; have q3 := (hgrow.cell_far ⟨B + 3, 0, none⟩ (by simp; omega) NE.out.2.2).trans c3; have r2 := (hgrow.frozen_far ⟨B + 2, 0, none⟩ (by simp; omega) NE.out.2.1).trans f2; have r3 := (hgrow.frozen_far ⟨B + 3, 0, none⟩ (by simp; omega) NE.out.2.2).trans f3))
    all_goals
      go_wp2
      go_ret
      exact ⟨rfl, (HI.out.grown HYl.out HO.out hown1 hgrow).setFrom (-1)⟩
  · go_enter Try.func12, Try.ntmps12
    go_wp2
    go_region_law ((refine step_append_lies _ (by rfl) _ _ _ (by rfl) (B + 4) 5 i0 _ 1 1 Try.underlying22 hi0 hz0 hz1 hz2 rfl (by omega) (.slice ao xs.length cap) xs.length (byteCells xs) (by rfl) (HO.out.drew) ⟨b, off + f, none⟩ (i + 1 - f) (c - f) (byteCells ys) (by rfl) (by rw [← HYl.out]; simp [byteCells]) (HYc.out) (byteCells_one _) (by omega) (by unfold maxLen; omega) (by omega) (by simp; omega) w.heap.size (by simp) ?_; intro gg cap' w1 hown1 hgrow hat hlt; have q2 := (hgrow.cell_far ⟨B + 2, 0, none⟩ (by simp; omega) NE.out.2.1).trans c2; have q3 := (hgrow.cell_far ⟨B + 3, 0, none⟩ (by simp; omega) NE.out.2.2).trans c3; have r2 := (hgrow.frozen_far ⟨B + 2, 0, none⟩ (by simp; omega) NE.out.2.1).trans f2; have r3 := (hgrow.frozen_far ⟨B + 3, 0, none⟩ (by simp; omega) NE.out.2.2).trans f3))
    all_goals
      go_wp2
      go_ret
      exact ⟨rfl, (HI.out.grown HYl.out HO.out hown1 hgrow).setFrom (-1)⟩

/-- An event, whatever it is. -/
theorem closure_any (B b off n c i : Nat) (d lv f : Int) (xs zs : List Int) (w w0 : World) (hi : i < n) (hn : n ≤ 1048576) (hnc : n ≤ c) (hxs : xs.length ≤ 1048576) (hz : zs.length = n)
    (hI : Inv B w0 w (some ⟨b, off, none⟩) n c d f xs) (hbB : b < B) (hcs : ∀ i, i < n → w0.cell? ⟨b, off + i, none⟩ = some (.int .u8 (zs.getD i 0)))
    (hcopy : lv = wrap64 (d + 1) → isOpen (zs.getD i 0) = true → 0 ≤ f ∧ f ≤ i) :
    Calls Try.prog 12 #[.int .i64 i, .int .i64 lv, .pointer (some ⟨B, 0, none⟩), .pointer (some ⟨B + 1, 0, none⟩), .pointer (some ⟨B + 2, 0, none⟩), .pointer (some ⟨B + 3, 0, none⟩)] w
      fun e w' => e = .returned (.bool true) ∧ Inv B w0 w' (some ⟨b, off, none⟩) n c d (evF d zs i lv f) (evX d zs i lv f xs) := by
  have hcs' : ∀ i, i < n → w.cell? ⟨b, off + i, none⟩ = some (.int .u8 (zs.getD i 0)) := fun j hj => (hI.bel.cell (p := ⟨b, off + j, none⟩) hbB).trans (hcs j hj)
  by_cases ht : lv = wrap64 (d + 1)
  · by_cases ho : isOpen (zs.getD i 0) = true
    · obtain ⟨c1, c2⟩ := hcopy ht ho
      obtain ⟨g, rfl⟩ := Int.eq_ofNat_of_zero_le c1
      have eF : evF d zs i lv g = -1 := by unfold evF; rw [if_pos ht, if_pos ho]
      have eX : evX d zs i lv g xs = xs ++ seg zs g (i + 1) := by unfold evX; rw [if_pos ht, if_pos ho, Int.toNat_natCast]
      rw [eF, eX]
      refine closure_open B b off n c i g d lv _ xs zs w w0 hi hn hnc (by omega) hxs (by simp [ht]) ?_ hz hI hcs' rfl
      simp only [isOpen, Bool.or_eq_true, decide_eq_true_eq] at ho
      by_cases h1 : zs.getD i 0 = 123
      · exact .inl (by rw [beq_iff_eq]; exact h1)
      · exact .inr ⟨by rw [beq_eq_false_iff_ne]; exact h1, by rw [beq_iff_eq]; omega⟩
    · have eF : evF d zs i lv f = i := by unfold evF; rw [if_pos ht, if_neg ho]
      have eX : evX d zs i lv f xs = xs := by unfold evX; rw [if_pos ht, if_neg ho]
      rw [eF, eX]
      simp only [isOpen, Bool.or_eq_true, decide_eq_true_eq, not_or] at ho
      refine (closure_shut B b off n c i d lv _ f w hi (by simp [ht]) (by rw [beq_eq_false_iff_ne]; exact ho.1) (by rw [beq_eq_false_iff_ne]; exact ho.2) (cell_of_one hI.bd) (cell_of_one hI.bp) (hcs' i hi) (cell_of_one hI.fr) (free_of_one hI.fr)).mono ?_
      rintro e w' ⟨rfl, rfl⟩
      exact ⟨rfl, hI.setFrom _⟩
  · have eF : evF d zs i lv f = f := by unfold evF; rw [if_neg ht]
    have eX : evX d zs i lv f xs = xs := by unfold evX; rw [if_neg ht]
    rw [eF, eX]
    refine (closure_skip B b off n c i d lv _ w hi (by rw [bne_iff_ne]; exact ht) (cell_of_one hI.bd) (cell_of_one hI.bp) (hcs' i hi)).mono ?_
    rintro e w' ⟨rfl, rfl⟩
    exact ⟨rfl, hI⟩

end Go.Proofs.Qxb6627783a
