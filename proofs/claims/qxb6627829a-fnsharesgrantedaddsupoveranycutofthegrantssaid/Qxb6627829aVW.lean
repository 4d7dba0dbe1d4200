/-
  addVW, subVW at one word, where nothing is carried out.
-/
import Derived.Test.Qxb6627829aVV
import Derived.Deep.RegionLaw
import Derived.Laws.CopyOwn
namespace Go.Proofs.Qxb6627829a
open Go.RowKit

theorem add_small (x y : Int) (hx : 0 ≤ x) (hy : 0 ≤ y) (h : x + y ≤ 18446744073709551615) (w : World) :
    Calls Try.prog 30 #[.int .u64 x, .int .u64 y, .int .u64 0] w fun e w' => e = .returned (.tuple #[.int .u64 (x + y), .int .u64 0]) ∧ w' = w := by
  have := add_0 x y hx hy w
  rw [show lo (x + y) = x + y by unfold lo; omega, show hi (x + y) = 0 by unfold hi; omega] at this; exact this
theorem sub_small (x y : Int) (hx : 0 ≤ x) (hy : 0 ≤ y) (h : y ≤ x) (hx' : x ≤ 18446744073709551615) (w : World) :
    Calls Try.prog 33 #[.int .u64 x, .int .u64 y, .int .u64 0] w fun e w' => e = .returned (.tuple #[.int .u64 (x - y), .int .u64 0]) ∧ w' = w := by
  have := sub_0 x y hx hy (by omega) w
  rw [show lo (x - y) = x - y by unfold lo; omega, show bor x y = 0 by unfold bor; rw [if_neg (by omega)]] at this; exact this

theorem run_neq_ptr_other {P : Program} (w : World) {tp te : TypeId} {j : TypeInfo} {a b : Addr} {ca cb : Array Value} {ta tb : TypeId} (hp : P.underlying tp = some (.pointer te)) (hte : P.info? te = some j) (hsz : j.size ≠ 0)
    (hne : a ≠ b) (ha : w.heap[a.block]? = some (.cells ca ta (0, 0))) (hb : w.heap[b.block]? = some (.cells cb tb (0, 0))) :
    (binOp .neq tp (.pointer (some a)) (.pointer (some b))).run P w = .ok (.bool true) w := by
  have h : ∀ d : Nat, (Op.equalIn (d + 1) tp (.pointer (some a)) (.pointer (some b))).run P w = .ok false w := fun d => by
    simp [Op.equalIn, run_underlying hp, sizeOf, typeInfo, hte, hsz, run_sameAddr_other w hne ha hb]
  simp only [binOp]
  simp [Op.equal, Op.maxDepth, h 9999]

theorem heap_setCell_row {w : World} {g : Nat} {cs : Array Value} {t : TypeId} (h : w.heap[g]? = some (.cells cs t (0, 0))) (i : Nat) (v : Value) : (w.setCell ⟨g, i, none⟩ v).heap[g]? = some (.cells (cs.setIfInBounds i v) t (0, 0)) := by
  simp [World.setCell, Array.getElem?_modify, h]

theorem step_copy_nothing {P : Program} {ops : Array Oper} {o : Oper} {a : Act} {w : World} {K : Act → World → Prop} {Q : Exit → Act → World → Prop} {E : Prop} (hgd : o.guard = none) (d s : Operand) (dT sT : TypeId)
    (ho : o.op = .call { callee := .builtin .copy, args := #[d, s], argTypes := #[dT, sT] }) (elem : TypeId) (hu : P.underlying dT = some (.slice elem)) (hsz : (P.info? elem).map (·.size) = some 1)
    (dp sp : Option Addr) (dLen dCap sLen sCap : Nat) (hd : a.eval d = .slice dp dLen dCap) (hs : a.eval s = .slice sp sLen sCap) (hn : Nat.min sLen dLen = 0)
    (h : K (a.put o.dst (goInt 0)) w) : if Region.wanted o (yielded ops a.tmps) = true then Oper.wp P o a w K Q else E := by
  have hw : Region.wanted o (yielded ops a.tmps) = true := by simp [Region.wanted, hgd]
  rw [if_pos hw]
  have hrun := run_copy_none (P := P) w dT sT o.type elem dp sp dLen dCap sLen sCap hu hsz hn
  unfold Oper.wp
  simp [execOp, ho, resolve, invoke, builtin, hd, hs, hrun, Result.andThen]
  exact h

theorem info38 : (Try.prog.info? 38).map (fun i => (i.zero, i.size, i.bytes)) = some (some (.int .u64 0), 1, 8) := by kernel_rfl

set_option maxHeartbeats 1600000 in
theorem addVW_same (g cz cx : Nat) (x1 c : Int) (w : World) (hx : w.cell? ⟨g, 1, none⟩ = some (.int .u64 x1)) (fz : w.frozen? ⟨g, 1, none⟩ = false) (hx0 : 0 ≤ x1) (hc0 : 0 ≤ c) (h : x1 + c ≤ 18446744073709551615) :
    Calls Try.prog 28 #[.slice (some ⟨g, 1, none⟩) 1 cz, .slice (some ⟨g, 1, none⟩) 1 cx, .int .u64 c] w fun e w' =>
      e = .returned (.int .u64 0) ∧ ∃ m, w' = (w.setCell ⟨g, 1, none⟩ (.int .u64 (x1 + c))).drewN m := by
  obtain ⟨i0, hi, hz0, hz1, hz2⟩ := info_parts info38
  have hptr := fun w : World => Lib.run_neq_ptr_same (P := Try.prog) w (tp := 79) (⟨g, 1, none⟩ : Addr) Try.underlying79 hi
  go_enter Try.func28, Try.ntmps28
  go_wp2_with (go_at_call 30; refine (add_small x1 c hx0 hc0 h _).mono ?_; rintro e w' ⟨rfl, rfl⟩)
  go_quiet (fail)
  go_wp2
  go_ret
  exact ⟨rfl, _, rfl⟩

set_option maxHeartbeats 1600000 in
theorem addVW_other (gz gx cz cx : Nat) (x1 c : Int) (zc xc : Array Value) (w : World) (hne : ¬ gz = gx) (hzb : w.heap[gz]? = some (.cells zc 38 (0, 0))) (hxb : w.heap[gx]? = some (.cells xc 38 (0, 0)))
    (hx : w.cell? ⟨gx, 1, none⟩ = some (.int .u64 x1)) (zv : Int) (hz : w.cell? ⟨gz, 1, none⟩ = some (.int .u64 zv)) (fz : w.frozen? ⟨gz, 1, none⟩ = false) (hx0 : 0 ≤ x1) (hc0 : 0 ≤ c) (h : x1 + c ≤ 18446744073709551615) :
    Calls Try.prog 28 #[.slice (some ⟨gz, 1, none⟩) 1 (cz + 2), .slice (some ⟨gx, 1, none⟩) 1 (cx + 1), .int .u64 c] w fun e w' =>
      e = .returned (.int .u64 0) ∧ ∃ m, w' = (w.setCell ⟨gz, 1, none⟩ (.int .u64 (x1 + c))).drewN m := by
  obtain ⟨i0, hi, hz0, hz1, hz2⟩ := info_parts info38
  have hptr := run_neq_ptr_other (P := Try.prog) (w.setCell ⟨gz, 1, none⟩ (.int .u64 (x1 + c))).drew (tp := 79) (a := (⟨gz, 1, none⟩ : Addr)) (b := (⟨gx, 1, none⟩ : Addr)) (ca := zc.setIfInBounds 1 (.int .u64 (x1 + c))) (cb := xc) (ta := 38) (tb := 38) Try.underlying79 hi (by rw [hz1]; decide) (by intro h; cases h; exact hne rfl)
    (by show (w.setCell ⟨gz, 1, none⟩ (.int .u64 (x1 + c))).heap[gz]? = _; exact heap_setCell_row hzb 1 _) (by show (w.setCell ⟨gz, 1, none⟩ (.int .u64 (x1 + c))).heap[gx]? = _; rw [Below.heap_setCell _ _ _ _ (by simp; omega)]; exact hxb)
  have hsz : (Try.prog.info? 38).map (·.size) = some 1 := by rw [hi]; simp [hz1]
  have HSZ : Hid ((Try.prog.info? 38).map (·.size) = some 1) := hsz
  clear hsz hzb hxb
  by_cases hcx : cx = 0
  · subst hcx
    go_enter Try.func28, Try.ntmps28
    go_wp2_with (go_at_call 30; refine (add_small x1 c hx0 hc0 h _).mono ?_; rintro e w' ⟨rfl, hw⟩; obtain rfl := hw.symm)
    go_region
    go_wp2
    go_region_law ((refine step_copy_nothing (by rfl) _ _ _ _ (by rfl) 38 Try.underlying35 HSZ.out _ _ 0 _ 0 _ (by rfl) (by rfl) (by decide) ?_))
    all_goals
      go_wp2
      go_ret
      exact ⟨rfl, 2, rfl⟩
  · go_enter Try.func28, Try.ntmps28
    go_wp2_with (go_at_call 30; refine (add_small x1 c hx0 hc0 h _).mono ?_; rintro e w' ⟨rfl, hw⟩; obtain rfl := hw.symm)
    go_region
    go_wp2
    go_region_law ((refine step_copy_nothing (by rfl) _ _ _ _ (by rfl) 38 Try.underlying35 HSZ.out _ _ 0 _ 0 _ (by rfl) (by rfl) (by decide) ?_))
    all_goals
      go_wp2
      go_ret
      exact ⟨rfl, 2, rfl⟩

theorem addVW_any (gz gx cz cx : Nat) (x1 c : Int) (zc xc : Array Value) (w : World) (hzb : w.heap[gz]? = some (.cells zc 38 (0, 0))) (hxb : w.heap[gx]? = some (.cells xc 38 (0, 0)))
    (hx : w.cell? ⟨gx, 1, none⟩ = some (.int .u64 x1)) (zv : Int) (hz : w.cell? ⟨gz, 1, none⟩ = some (.int .u64 zv)) (fz : w.frozen? ⟨gz, 1, none⟩ = false) (hx0 : 0 ≤ x1) (hc0 : 0 ≤ c) (h : x1 + c ≤ 18446744073709551615) :
    Calls Try.prog 28 #[.slice (some ⟨gz, 1, none⟩) 1 (cz + 2), .slice (some ⟨gx, 1, none⟩) 1 (cx + 1), .int .u64 c] w fun e w' =>
      e = .returned (.int .u64 0) ∧ ∃ m, w' = (w.setCell ⟨gz, 1, none⟩ (.int .u64 (x1 + c))).drewN m := by
  by_cases hg : gz = gx
  · subst hg
    exact addVW_same gz (cz + 2) (cx + 1) x1 c w hx fz hx0 hc0 h
  · exact addVW_other gz gx cz cx x1 c zc xc w hg hzb hxb hx zv hz fz hx0 hc0 h

set_option maxHeartbeats 1600000 in
theorem subVW_same (g cz cx : Nat) (x1 c : Int) (w : World) (hx : w.cell? ⟨g, 1, none⟩ = some (.int .u64 x1)) (fz : w.frozen? ⟨g, 1, none⟩ = false) (hx0 : 0 ≤ x1) (hc0 : 0 ≤ c) (h : c ≤ x1) (hx1 : x1 ≤ 18446744073709551615) :
    Calls Try.prog 32 #[.slice (some ⟨g, 1, none⟩) 1 cz, .slice (some ⟨g, 1, none⟩) 1 cx, .int .u64 c] w fun e w' =>
      e = .returned (.int .u64 0) ∧ ∃ m, w' = (w.setCell ⟨g, 1, none⟩ (.int .u64 (x1 - c))).drewN m := by
  obtain ⟨i0, hi, hz0, hz1, hz2⟩ := info_parts info38
  have hptr := fun w : World => Lib.run_neq_ptr_same (P := Try.prog) w (tp := 79) (⟨g, 1, none⟩ : Addr) Try.underlying79 hi
  go_enter Try.func32, Try.ntmps32
  go_wp2_with (go_at_call 33; refine (sub_small x1 c hx0 hc0 h hx1 _).mono ?_; rintro e w' ⟨rfl, rfl⟩)
  go_quiet (fail)
  go_wp2
  go_ret
  exact ⟨rfl, _, rfl⟩

set_option maxHeartbeats 1600000 in
theorem subVW_other (gz gx cz cx : Nat) (x1 c : Int) (zc xc : Array Value) (w : World) (hne : ¬ gz = gx) (hzb : w.heap[gz]? = some (.cells zc 38 (0, 0))) (hxb : w.heap[gx]? = some (.cells xc 38 (0, 0)))
    (hx : w.cell? ⟨gx, 1, none⟩ = some (.int .u64 x1)) (zv : Int) (hz : w.cell? ⟨gz, 1, none⟩ = some (.int .u64 zv)) (fz : w.frozen? ⟨gz, 1, none⟩ = false) (hx0 : 0 ≤ x1) (hc0 : 0 ≤ c) (h : c ≤ x1) (hx1 : x1 ≤ 18446744073709551615) :
    Calls Try.prog 32 #[.slice (some ⟨gz, 1, none⟩) 1 (cz + 2), .slice (some ⟨gx, 1, none⟩) 1 (cx + 1), .int .u64 c] w fun e w' =>
      e = .returned (.int .u64 0) ∧ ∃ m, w' = (w.setCell ⟨gz, 1, none⟩ (.int .u64 (x1 - c))).drewN m := by
  obtain ⟨i0, hi, hz0, hz1, hz2⟩ := info_parts info38
  have hptr := run_neq_ptr_other (P := Try.prog) (w.setCell ⟨gz, 1, none⟩ (.int .u64 (x1 - c))).drew (tp := 79) (a := (⟨gz, 1, none⟩ : Addr)) (b := (⟨gx, 1, none⟩ : Addr)) (ca := zc.setIfInBounds 1 (.int .u64 (x1 - c))) (cb := xc) (ta := 38) (tb := 38) Try.underlying79 hi (by rw [hz1]; decide) (by intro h; cases h; exact hne rfl)
    (by show (w.setCell ⟨gz, 1, none⟩ (.int .u64 (x1 - c))).heap[gz]? = _; exact heap_setCell_row hzb 1 _) (by show (w.setCell ⟨gz, 1, none⟩ (.int .u64 (x1 - c))).heap[gx]? = _; rw [Below.heap_setCell _ _ _ _ (by simp; omega)]; exact hxb)
  have hsz : (Try.prog.info? 38).map (·.size) = some 1 := by rw [hi]; simp [hz1]
  have HSZ : Hid ((Try.prog.info? 38).map (·.size) = some 1) := hsz
  clear hsz hzb hxb
  by_cases hcx : cx = 0
  · subst hcx
    go_enter Try.func32, Try.ntmps32
    go_wp2_with (go_at_call 33; refine (sub_small x1 c hx0 hc0 h hx1 _).mono ?_; rintro e w' ⟨rfl, hw⟩; obtain rfl := hw.symm)
    go_region
    go_wp2
    go_region_law ((refine step_copy_nothing (by rfl) _ _ _ _ (by rfl) 38 Try.underlying35 HSZ.out _ _ 0 _ 0 _ (by rfl) (by rfl) (by decide) ?_))
    all_goals
      go_wp2
      go_ret
      exact ⟨rfl, 2, rfl⟩
  · go_enter Try.func32, Try.ntmps32
    go_wp2_with (go_at_call 33; refine (sub_small x1 c hx0 hc0 h hx1 _).mono ?_; rintro e w' ⟨rfl, hw⟩; obtain rfl := hw.symm)
    go_region
    go_wp2
    go_region_law ((refine step_copy_nothing (by rfl) _ _ _ _ (by rfl) 38 Try.underlying35 HSZ.out _ _ 0 _ 0 _ (by rfl) (by rfl) (by decide) ?_))
    all_goals
      go_wp2
      go_ret
      exact ⟨rfl, 2, rfl⟩

theorem subVW_any (gz gx cz cx : Nat) (x1 c : Int) (zc xc : Array Value) (w : World) (hzb : w.heap[gz]? = some (.cells zc 38 (0, 0))) (hxb : w.heap[gx]? = some (.cells xc 38 (0, 0)))
    (hx : w.cell? ⟨gx, 1, none⟩ = some (.int .u64 x1)) (zv : Int) (hz : w.cell? ⟨gz, 1, none⟩ = some (.int .u64 zv)) (fz : w.frozen? ⟨gz, 1, none⟩ = false) (hx0 : 0 ≤ x1) (hc0 : 0 ≤ c) (h : c ≤ x1) (hx1 : x1 ≤ 18446744073709551615) :
    Calls Try.prog 32 #[.slice (some ⟨gz, 1, none⟩) 1 (cz + 2), .slice (some ⟨gx, 1, none⟩) 1 (cx + 1), .int .u64 c] w fun e w' =>
      e = .returned (.int .u64 0) ∧ ∃ m, w' = (w.setCell ⟨gz, 1, none⟩ (.int .u64 (x1 - c))).drewN m := by
  by_cases hg : gz = gx
  · subst hg
    exact subVW_same gz (cz + 2) (cx + 1) x1 c w hx fz hx0 hc0 h hx1
  · exact subVW_other gz gx cz cx x1 c zc xc w hg hzb hxb hx zv hz fz hx0 hc0 h hx1

end Go.Proofs.Qxb6627829a
