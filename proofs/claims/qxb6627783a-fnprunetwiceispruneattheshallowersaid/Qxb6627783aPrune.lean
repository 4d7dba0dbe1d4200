/-
  The walk of Prune: it returns what the automaton keeps.
-/
import Derived.Test.Qxb6627783aBrackets
namespace Go.Proofs.Qxb6627783a
open Go.RowKit

/-- 'append' onto a row that the call owns, as one step of a region that draws, whatever is appended (nil and nothing too). -/
theorem step_append_any {P : Program} {ops : Array Oper} {o : Oper} {a : Act} {w : World} {K : Act → World → Prop} {Q : Exit → Act → World → Prop} {E : Prop} (hgd : o.guard = none) (s x : Operand) (t : TypeId)
    (ho : o.op = .call { callee := .builtin .append, args := #[s, x], argTypes := #[t, t] })
    (base : Nat) (e : TypeId) (i : TypeInfo) (z : Value) (size bytes : Nat) (ht : P.underlying t = some (.slice e)) (hi : P.info? e = some i) (hz : i.zero = some z)
    (hsize : i.size = size) (hby : i.bytes = bytes) (hzs : z.cells.size = size) (hsz : 0 < size)
    (ao : Option Addr) (n cap : Nat) (xs : List Value) (hs : a.eval s = .slice ao n cap) (hown : w.ownsRow base e size (.slice ao n cap) n xs)
    (bo : Option Addr) (m c : Nat) (news : List Value) (hx : a.eval x = .slice bo m c) (hnone : bo = none → m = 0 ∧ c = 0) (hl : news.length = m * size)
    (hnews : ∀ ad, bo = some ad → ∀ j u, news[j]? = some u → w.cell? (ad.add j) = some u) (h1 : ∀ u ∈ news, u.oneCell' = true)
    (h63 : n + m ≤ maxLen) (hbytes : (n + m) * bytes ≤ 140737488355328) (hbase : base ≤ w.heap.size)
    (h : ∀ ao' cap' w', w'.ownsRow base e size (.slice ao' (n + m) cap') (n + m) (xs ++ news) → w.grownBy w' (Value.slice ao n cap).ownBlock → K (a.put o.dst (.slice ao' (n + m) cap')) w') :
    if Region.wanted o (yielded ops a.tmps) = true then Oper.wp P o a w K Q else E := by
  have hw : Region.wanted o (yielded ops a.tmps) = true := by simp [Region.wanted, hgd]
  rw [if_pos hw]
  cases bo with
  | some ad =>
    obtain ⟨v', w', hrun, r1, r2, _⟩ := run_append_own (P := P) w base t o.type e i z size bytes ht hi hz hsize hby hzs hsz _ n xs hown ad m c news hl (hnews ad rfl) h1 h63 hbytes hbase
    obtain ⟨ao', cap', hv⟩ : ∃ ao' cap', v' = .slice ao' (n + m) cap' := by
      rcases r1.2 with ⟨e1, e2⟩ | ⟨g, cp, _, e1, _⟩
      · exact ⟨none, 0, by rw [e1, e2]⟩
      · exact ⟨_, _, e1⟩
    subst hv
    unfold Oper.wp
    simp [execOp, ho, resolve, invoke, builtin, hs, hx, hrun, Result.andThen]
    exact h _ _ w' r1 r2
  | none =>
    obtain ⟨rfl, rfl⟩ := hnone rfl
    obtain rfl : news = [] := List.eq_nil_of_length_eq_zero (by simpa using hl)
    have hrun := run_append_owned_none (P := P) w base t o.type e i size ht hi _ n xs hown
    unfold Oper.wp
    simp [execOp, ho, resolve, invoke, builtin, hs, hx, hrun, Result.andThen]
    have h' : K (a.put o.dst (.slice ao n cap)) w := by simpa using h ao cap w (by simpa using hown) (World.grownBy.refl _ _)
    exact h'

theorem ownsRow_base {w : World} {B B' : Nat} {e : TypeId} {size : Nat} {v : Value} {n : Nat} {xs : List Value} (h : w.ownsRow B e size v n xs) (hB : B' ≤ B) : w.ownsRow B' e size v n xs := by
  obtain ⟨h1, h2⟩ := h
  refine ⟨h1, ?_⟩
  rcases h2 with h2 | ⟨g, cap, cur, hv, hg, r⟩
  · exact .inl h2
  · exact .inr ⟨g, cap, cur, hv, by omega, r⟩

/-- The world in which Prune calls brackets. -/
def start (w : World) (a : Option Addr) (n c : Nat) (d : Int) : World :=
  (((w.alloc (.cells #[.slice a n c] 22)).alloc (.cells #[.int .i64 d] 3)).alloc (.cells #[.slice none 0 0] 22)).alloc (.cells #[.int .i64 0] 3)
theorem start_third (w : World) (a : Option Addr) (n c : Nat) (d : Int) : (start w a n c d).heap[w.heap.size + 2]? = some (.cells #[.slice none 0 0] 22 (0, 0)) := by
  have s2 : ((w.alloc (.cells #[.slice a n c] 22)).alloc (.cells #[.int .i64 d] 3)).heap.size = w.heap.size + 2 := by simp
  unfold start; rw [Below.heap_alloc _ _ _ (by simp), ← s2]; exact heap_alloc_new _ _
theorem start_inv (w : World) (a : Option Addr) (n c : Nat) (d : Int) : Inv w.heap.size w (start w a n c d) a n c d 0 [] := by
  have s1 : (w.alloc (.cells #[.slice a n c] 22)).heap.size = w.heap.size + 1 := by simp
  have s2 : ((w.alloc (.cells #[.slice a n c] 22)).alloc (.cells #[.int .i64 d] 3)).heap.size = w.heap.size + 2 := by simp
  have s3 : (((w.alloc (.cells #[.slice a n c] 22)).alloc (.cells #[.int .i64 d] 3)).alloc (.cells #[.slice none 0 0] 22)).heap.size = w.heap.size + 3 := by simp
  refine ⟨?_, ?_, ⟨none, 0, ?_, World.ownsRow_nil _ _ _ _⟩, ?_, ?_, ?_⟩
  · unfold start; rw [Below.heap_alloc _ _ _ (by omega), Below.heap_alloc _ _ _ (by omega), Below.heap_alloc _ _ _ (by omega)]; exact heap_alloc_new w _
  · unfold start; rw [Below.heap_alloc _ _ _ (by omega), Below.heap_alloc _ _ _ (by omega), ← s1]; exact heap_alloc_new _ _
  · unfold start; rw [Below.heap_alloc _ _ _ (by omega), ← s2]; exact heap_alloc_new _ _
  · unfold start; rw [← s3]; exact heap_alloc_new _ _
  · simp [start]
  · exact ((((Below.refl _ _).alloc (Nat.le_refl _) _).alloc (by omega) _).alloc (by omega) _).alloc (by omega) _

theorem Inv.grown' {B : Nat} {w0 w w1 : World} {a : Option Addr} {n c cap' : Nat} {d f : Int} {xs ys : List Int} {ao ao' : Option Addr} {cap m : Nat} (hm : ys.length = m) (h : Inv B w0 w a n c d f xs)
    (ho : w.ownsRow (B + 4) 5 1 (.slice ao xs.length cap) xs.length (byteCells xs))
    (hown : w1.ownsRow (B + 4) 5 1 (.slice ao' (xs.length + m) cap') (xs.length + m) (byteCells xs ++ byteCells ys)) (hg : w.drew.grownBy w1 (Value.slice ao xs.length cap).ownBlock) :
    Below B w0 (w1.setCell ⟨B + 2, 0, none⟩ (.slice ao' (xs.length + m) cap')) ∧ (w1.setCell ⟨B + 2, 0, none⟩ (.slice ao' (xs.length + m) cap')).ownsRow (B + 4) 5 1 (.slice ao' (xs ++ ys).length cap') (xs ++ ys).length (byteCells (xs ++ ys)) := by
  subst hm
  have hlt := ho.lt
  have keepB : ∀ k, k < B + 4 → w1.heap[k]? = w.heap[k]? := fun k hk => by
    have := hg.block k (by have := h.sz; show k < w.heap.size; omega) (fun e => by have := hlt k e.symm; omega)
    exact this
  refine ⟨Below.setCell (h.bel.trans ⟨hg.os, hg.tape, hg.output, hg.size, fun k hk => keepB k (by omega)⟩) (by simp) _, ?_⟩
  rw [List.length_append, byteCells_append]
  exact ownsRow_setCell_below hown (by simp) _

set_option maxHeartbeats 400000 in
theorem brackets_empty (a : Option Addr) (c : Nat) (fv : Value) (w : World) :
    Calls Try.prog 11 #[.slice a 0 c, fv] w fun e w' => e = .returned (.tuple #[]) ∧ w' = w := by
  go_enter Try.func11, Try.ntmps11
  go_wp2
  refine wp_loop_rounds 1 ?_
  rw [rounds_succ]
  go_wp2
  go_end0
  exact ⟨rfl, rfl⟩

set_option maxHeartbeats 1600000 in
set_option maxRecDepth 100000 in
theorem prune_some (b off n c : Nat) (d : Int) (zs : List Int) (w : World) (hn : n ≤ 1048576) (hnc : n ≤ c) (hd : -9223372036854775808 ≤ d ∧ d ≤ 9223372036854775807) (hz : zs.length = n) (hr : ∀ i, 0 ≤ zs.getD i 0 ∧ zs.getD i 0 ≤ 255)
    (hbB : b < w.heap.size) (hcs : ∀ i, i < n → w.cell? ⟨b, off + i, none⟩ = some (.int .u8 (zs.getD i 0))) :
    Calls Try.prog 7 #[.slice (some ⟨b, off, none⟩) n c, .int .i64 d] w fun e w' => Gives w.heap.size w' e (M d zs n) ∧ Below w.heap.size w w' := by
  have HI : Hid (Inv w.heap.size w (start w (some ⟨b, off, none⟩) n c d) (some ⟨b, off, none⟩) n c d 0 []) := start_inv w _ n c d
  have HCS : Hid (∀ i, i < n → w.cell? ⟨b, off + i, none⟩ = some (.int .u8 (zs.getD i 0))) := hcs
  have HR : Hid (∀ i, 0 ≤ zs.getD i 0 ∧ zs.getD i 0 ≤ 255) := hr
  have HZ : Hid (zs.length = n) := hz
  have HD : Hid (-9223372036854775808 ≤ d ∧ d ≤ 9223372036854775807) := hd
  clear hcs hr hz hd
  obtain ⟨R, eR⟩ : ∃ R, R = M d zs n := ⟨_, rfl⟩
  have HM : Hid (R = M d zs n) := eR
  rw [← eR]
  clear eR
  go_enter Try.func7, Try.ntmps7
  go_wp2_with fail
  refine (brackets_any w.heap.size b off n c d zs _ w hn hnc HD.out HZ.out HR.out HI.out hbB HCS.out).mono ?_
  rintro e w1 ⟨rfl, l, f, xs, hI, hP⟩
  obtain ⟨ao, cap, h2, hown⟩ := hI.pr
  have hlt := hown.lt
  have c0 : w1.cell? ⟨w.heap.size, 0, none⟩ = _ := cell_of_one hI.bd
  have c2 : w1.cell? ⟨w.heap.size + 1 + 1, 0, none⟩ = _ := cell_of_one h2
  have c3 : w1.cell? ⟨w.heap.size + 1 + 1 + 1, 0, none⟩ = _ := cell_of_one hI.fr
  have f2 : w1.frozen? ⟨w.heap.size + 1 + 1, 0, none⟩ = _ := free_of_one h2
  have hsz := hI.sz
  have NE : Hid (some (w.heap.size + 2) ≠ (Value.slice ao xs.length cap).ownBlock) := fun e => by have := hlt (w.heap.size + 2) e.symm; omega
  have HJ : Hid (Inv w.heap.size w w1 (some ⟨b, off, none⟩) n c d f xs) := hI
  have HO : Hid (w1.ownsRow (w.heap.size + 4) 5 1 (.slice ao xs.length cap) xs.length (byteCells xs)) := hown
  have hxs : xs.length ≤ n := by have := PR_xs hP (by rw [HZ.out]; exact Nat.le_refl _); exact this
  clear hI h2 hlt hown
  rcases hP with ⟨g, rfl, hg, hM, hlow⟩ | ⟨rfl, hM, hlow⟩
  · clear hlow
    obtain ⟨ys, eys⟩ : ∃ ys, ys = seg zs g n := ⟨_, rfl⟩
    have HYl : Hid (ys.length = n - g) := by unfold Hid; rw [eys]; exact seg_length (by rw [HZ.out]; exact Nat.le_refl _)
    have HYc : Hid (∀ j u, (byteCells ys)[j]? = some u → w1.cell? ((⟨b, off + g, none⟩ : Addr).add j) = some u) := by
      unfold Hid; rw [eys]
      exact seg_cells (fun j hj => (HJ.out.bel.cell (p := ⟨b, off + j, none⟩) hbB).trans (HCS.out j hj)) HZ.out (Nat.le_refl _)
    have HMR : Hid (R = xs ++ ys) := by unfold Hid; rw [HM.out, hM, eys]
    clear hM eys HCS HR HD HZ HM HI
    obtain ⟨i0, hi0, hz0, hz1, hz2⟩ := info_parts info5
    have hg0 : (0 : Int) ≤ (g : Int) := by omega
    have hgn : (g : Int) ≤ (n : Int) := by omega
    have hnc' : (n : Int) ≤ (c : Int) := by omega
    by_cases hcg : c = g
    · obtain rfl : n = g := by omega
      subst hcg
      have hl0 : Hid (ys.length = 0) := by have := HYl.out; rw [Nat.sub_self] at this; exact this
      clear HYl
      have HYl := hl0
      clear hl0
      go_wp2
      go_region_law ((refine step_append_any (by rfl) _ _ _ (by rfl) (w.heap.size + 4) 5 i0 _ 1 1 Try.underlying22 hi0 hz0 hz1 hz2 rfl (by omega) ao xs.length cap (byteCells xs) (by rfl) (HO.out.drew) (some ⟨b, off, none⟩) 0 0 (byteCells ys) (by rfl) (fun h => by cases h) (by rw [← HYl.out]; simp [byteCells]) (fun ad h j u hu => by have hy := List.eq_nil_of_length_eq_zero HYl.out; rw [hy] at hu; cases hu) (byteCells_one _) (by unfold maxLen; omega) (by omega) (by simp; omega) ?_; intro ao' cap' w2 hown2 hgrow; have q2 : w2.cell? ⟨w.heap.size + 1 + 1, 0, none⟩ = _ := (hgrow.cell_far ⟨w.heap.size + 2, 0, none⟩ (by simp; omega) NE.out).trans c2; have r2 : w2.frozen? ⟨w.heap.size + 1 + 1, 0, none⟩ = _ := (hgrow.frozen_far ⟨w.heap.size + 2, 0, none⟩ (by simp; omega) NE.out).trans f2))
      all_goals
        go_wp2
        go_ret
        have hJ2 := HJ.out.grown' HYl.out HO.out hown2 hgrow
        rw [HMR.out]
        exact ⟨⟨_, _, congrArg Ending.returned (by simp [HYl.out]), ownsRow_base hJ2.2 (by omega)⟩, hJ2.1⟩
    · go_wp2
      go_region_law ((refine step_append_any (by rfl) _ _ _ (by rfl) (w.heap.size + 4) 5 i0 _ 1 1 Try.underlying22 hi0 hz0 hz1 hz2 rfl (by omega) ao xs.length cap (byteCells xs) (by rfl) (HO.out.drew) (some ⟨b, off + g, none⟩) (n - g) (c - g) (byteCells ys) (by rfl) (fun h => by cases h) (by rw [← HYl.out]; simp [byteCells]) (fun ad h => by cases h; exact HYc.out) (byteCells_one _) (by unfold maxLen; omega) (by omega) (by simp; omega) ?_; intro ao' cap' w2 hown2 hgrow; have q2 : w2.cell? ⟨w.heap.size + 1 + 1, 0, none⟩ = _ := (hgrow.cell_far ⟨w.heap.size + 2, 0, none⟩ (by simp; omega) NE.out).trans c2; have r2 : w2.frozen? ⟨w.heap.size + 1 + 1, 0, none⟩ = _ := (hgrow.frozen_far ⟨w.heap.size + 2, 0, none⟩ (by simp; omega) NE.out).trans f2))
      all_goals
        go_wp2
        go_ret
        have hJ2 := HJ.out.grown' HYl.out HO.out hown2 hgrow
        rw [HMR.out]
        exact ⟨⟨_, _, congrArg Ending.returned (by simp [HYl.out]), ownsRow_base hJ2.2 (by omega)⟩, hJ2.1⟩
  · clear hlow
    have hMR : R = xs := by rw [HM.out, hM]
    clear hM HCS HR HD HZ HM HI
    go_wp2
    go_ret
    rw [hMR]
    exact ⟨⟨_, _, rfl, ownsRow_base HO.out (by omega)⟩, HJ.out.bel⟩

set_option maxHeartbeats 1600000 in
set_option maxRecDepth 100000 in
theorem prune_nil (d : Int) (w : World) :
    Calls Try.prog 7 #[.slice none 0 0, .int .i64 d] w fun e w' => Gives w.heap.size w' e [] ∧ Below w.heap.size w w' := by
  obtain ⟨i0, hi0, hz0, hz1, hz2⟩ := info_parts info5
  have HI : Hid (Inv w.heap.size w (start w none 0 0 d) none 0 0 d 0 []) := start_inv w _ 0 0 d
  have c2 : (start w none 0 0 d).drew.cell? ⟨w.heap.size + 1 + 1, 0, none⟩ = some (.slice none 0 0) := cell_of_one (start_third w none 0 0 d)
  have f2 : (start w none 0 0 d).drew.frozen? ⟨w.heap.size + 1 + 1, 0, none⟩ = false := free_of_one (start_third w none 0 0 d)
  unfold start at HI c2 f2
  go_enter Try.func7, Try.ntmps7
  go_wp2_with fail
  refine (brackets_empty none 0 _ _).mono ?_
  rintro e w1 ⟨rfl, rfl⟩
  go_wp2
  go_region_law ((refine step_append_any (by rfl) _ _ _ (by rfl) (w.heap.size + 4) 5 i0 _ 1 1 Try.underlying22 hi0 hz0 hz1 hz2 rfl (by omega) none 0 0 [] (by rfl) (World.ownsRow_nil _ _ _ _) none 0 0 [] (by rfl) (fun _ => ⟨rfl, rfl⟩) (by rfl) (fun ad h j u hu => by cases hu) (fun u hu => by cases hu) (by unfold maxLen; omega) (by omega) (by simp) ?_; intro ao' cap' w2 hown2 hgrow; have q2 : w2.cell? ⟨w.heap.size + 1 + 1, 0, none⟩ = _ := (hgrow.cell_far ⟨w.heap.size + 1 + 1, 0, none⟩ (by simp) (by simp [Value.ownBlock])).trans c2; have r2 : w2.frozen? ⟨w.heap.size + 1 + 1, 0, none⟩ = _ := (hgrow.frozen_far ⟨w.heap.size + 1 + 1, 0, none⟩ (by simp) (by simp [Value.ownBlock])).trans f2))
  all_goals
    go_wp2
    go_ret
    have hJ2 := HI.out.grown' (ys := []) rfl (World.ownsRow_nil _ _ _ _) hown2 hgrow
    exact ⟨⟨_, _, rfl, ownsRow_base hJ2.2 (by omega)⟩, hJ2.1⟩

set_option maxHeartbeats 1600000 in
set_option maxRecDepth 100000 in
theorem prune_zero (x : Addr) (d : Int) (w : World) :
    Calls Try.prog 7 #[.slice (some x) 0 0, .int .i64 d] w fun e w' => Gives w.heap.size w' e [] ∧ Below w.heap.size w w' := by
  obtain ⟨i0, hi0, hz0, hz1, hz2⟩ := info_parts info5
  have HI : Hid (Inv w.heap.size w (start w (some x) 0 0 d) (some x) 0 0 d 0 []) := start_inv w _ 0 0 d
  have c2 : (start w (some x) 0 0 d).drew.cell? ⟨w.heap.size + 1 + 1, 0, none⟩ = some (.slice none 0 0) := cell_of_one (start_third w (some x) 0 0 d)
  have f2 : (start w (some x) 0 0 d).drew.frozen? ⟨w.heap.size + 1 + 1, 0, none⟩ = false := free_of_one (start_third w (some x) 0 0 d)
  unfold start at HI c2 f2
  go_enter Try.func7, Try.ntmps7
  go_wp2_with fail
  refine (brackets_empty (some x) 0 _ _).mono ?_
  rintro e w1 ⟨rfl, rfl⟩
  go_wp2
  go_region_law ((refine step_append_any (by rfl) _ _ _ (by rfl) (w.heap.size + 4) 5 i0 _ 1 1 Try.underlying22 hi0 hz0 hz1 hz2 rfl (by omega) none 0 0 [] (by rfl) (World.ownsRow_nil _ _ _ _) (some x) 0 0 [] (by rfl) (fun h => by cases h) (by rfl) (fun ad h j u hu => by cases hu) (fun u hu => by cases hu) (by unfold maxLen; omega) (by omega) (by simp) ?_; intro ao' cap' w2 hown2 hgrow; have q2 : w2.cell? ⟨w.heap.size + 1 + 1, 0, none⟩ = _ := (hgrow.cell_far ⟨w.heap.size + 1 + 1, 0, none⟩ (by simp) (by simp [Value.ownBlock])).trans c2; have r2 : w2.frozen? ⟨w.heap.size + 1 + 1, 0, none⟩ = _ := (hgrow.frozen_far ⟨w.heap.size + 1 + 1, 0, none⟩ (by simp) (by simp [Value.ownBlock])).trans f2))
  all_goals
    go_wp2
    go_ret
    have hJ2 := HI.out.grown' (ys := []) rfl (World.ownsRow_nil _ _ _ _) hown2 hgrow
    exact ⟨⟨_, _, rfl, ownsRow_base hJ2.2 (by omega)⟩, hJ2.1⟩

set_option maxHeartbeats 1600000 in
set_option maxRecDepth 100000 in
theorem prune_room (x : Addr) (c : Nat) (hc : ¬ c = 0) (d : Int) (w : World) :
    Calls Try.prog 7 #[.slice (some x) 0 c, .int .i64 d] w fun e w' => Gives w.heap.size w' e [] ∧ Below w.heap.size w w' := by
  obtain ⟨i0, hi0, hz0, hz1, hz2⟩ := info_parts info5
  have HI : Hid (Inv w.heap.size w (start w (some x) 0 c d) (some x) 0 c d 0 []) := start_inv w _ 0 c d
  have c2 : (start w (some x) 0 c d).drew.cell? ⟨w.heap.size + 1 + 1, 0, none⟩ = some (.slice none 0 0) := cell_of_one (start_third w (some x) 0 c d)
  have f2 : (start w (some x) 0 c d).drew.frozen? ⟨w.heap.size + 1 + 1, 0, none⟩ = false := free_of_one (start_third w (some x) 0 c d)
  unfold start at HI c2 f2
  go_enter Try.func7, Try.ntmps7
  go_wp2_with fail
  refine (brackets_empty (some x) c _ _).mono ?_
  rintro e w1 ⟨rfl, rfl⟩
  go_wp2
  go_region_law ((refine step_append_any (by rfl) _ _ _ (by rfl) (w.heap.size + 4) 5 i0 _ 1 1 Try.underlying22 hi0 hz0 hz1 hz2 rfl (by omega) none 0 0 [] (by rfl) (World.ownsRow_nil _ _ _ _) _ 0 _ [] (by rfl) (fun h => by cases h) (by rfl) (fun ad h j u hu => by cases hu) (fun u hu => by cases hu) (by unfold maxLen; omega) (by omega) (by simp) ?_; intro ao' cap' w2 hown2 hgrow; have q2 : w2.cell? ⟨w.heap.size + 1 + 1, 0, none⟩ = _ := (hgrow.cell_far ⟨w.heap.size + 1 + 1, 0, none⟩ (by simp) (by simp [Value.ownBlock])).trans c2; have r2 : w2.frozen? ⟨w.heap.size + 1 + 1, 0, none⟩ = _ := (hgrow.frozen_far ⟨w.heap.size + 1 + 1, 0, none⟩ (by simp) (by simp [Value.ownBlock])).trans f2))
  all_goals
    go_wp2
    go_ret
    have hJ2 := HI.out.grown' (ys := []) rfl (World.ownsRow_nil _ _ _ _) hown2 hgrow
    exact ⟨⟨_, _, rfl, ownsRow_base hJ2.2 (by omega)⟩, hJ2.1⟩

theorem prune_any (a : Option Addr) (n c : Nat) (d : Int) (zs : List Int) (w : World) (hn : n ≤ 1048576) (hnc : n ≤ c) (hnil : a = none → n = 0 ∧ c = 0) (hd : -9223372036854775808 ≤ d ∧ d ≤ 9223372036854775807) (hv : ViewB w.heap.size w a n zs) :
    Calls Try.prog 7 #[.slice a n c, .int .i64 d] w fun e w' => Gives w.heap.size w' e (M d zs n) ∧ Below w.heap.size w w' := by
  obtain ⟨hz, hr, h⟩ := hv
  by_cases h0 : n = 0
  · subst h0
    have e : M d zs 0 = [] := rfl
    rw [e]
    cases a with
    | none => obtain ⟨_, rfl⟩ := hnil rfl; exact prune_nil d w
    | some x =>
      by_cases hc : c = 0
      · subst hc; exact prune_zero x d w
      · exact prune_room x c hc d w
  · rcases h with h | ⟨b, off, rfl, hb, hcs⟩
    · exact absurd h h0
    · exact prune_some b off n c d zs w hn hnc hd hz hr hb hcs

theorem M_range {d : Int} {zs : List Int} {n : Nat} (hr : ∀ i, 0 ≤ zs.getD i 0 ∧ zs.getD i 0 ≤ 255) : ∀ i, 0 ≤ (M d zs n).getD i 0 ∧ (M d zs n).getD i 0 ≤ 255 := by
  intro i
  by_cases hi : i < (M d zs n).length
  · have hm : (M d zs n).getD i 0 ∈ M d zs n := by simp [List.getD, hi]
    have h1 := mem_M d s0 _ _ hm
    have h2 := List.mem_of_mem_take h1
    obtain ⟨j, hj, hx⟩ := List.mem_iff_getElem.1 h2
    have := hr j
    simp only [List.getD, List.getElem?_eq_getElem hj, Option.getD_some] at this
    rw [← hx]; exact this
  · have : (M d zs n).getD i 0 = 0 := by simp [List.getD, List.getElem?_eq_none (Nat.le_of_not_lt hi)]
    omega

/-- What a row of the call's own shows. -/
theorem view_own {w : World} {B cap : Nat} {ao : Option Addr} {xs : List Int} (hr : ∀ i, 0 ≤ xs.getD i 0 ∧ xs.getD i 0 ≤ 255) (h : w.ownsRow B 5 1 (.slice ao xs.length cap) xs.length (byteCells xs)) :
    ViewB w.heap.size w ao xs.length xs ∧ xs.length ≤ cap ∧ (ao = none → xs.length = 0 ∧ cap = 0) := by
  have h' := h
  rcases h.2 with ⟨e1, e2⟩ | ⟨g, cap', cur, e1, _, hg, hle, _⟩
  · simp at e1
    obtain ⟨rfl, _, rfl⟩ := e1
    exact ⟨⟨rfl, hr, .inl e2⟩, by omega, fun _ => ⟨e2, rfl⟩⟩
  · simp at e1
    obtain ⟨rfl, rfl⟩ := e1
    refine ⟨⟨rfl, hr, .inr ⟨g, 0, rfl, lt_of_block hg, fun i hi => ?_⟩⟩, hle, fun e => by cases e⟩
    rw [Nat.zero_add, h'.cellAt i (by omega)]
    simp [byteCells, List.getD, hi]

end Go.Proofs.Qxb6627783a
