/-
  nat.set and nat.cmp.
-/
import Derived.Test.Qxb6627829aNat
namespace Go.Proofs.Qxb6627829a
open Go.RowKit

/-- What a nat function hands back: the first k words of a row (z's own or a new one); all other blocks stand. -/
def NatOut (a : Option Addr) (p : List Int → Nat → Prop) (w : World) (e : Ending) (w' : World) : Prop :=
  ∃ g k c cur, e = .returned (.slice (some ⟨g, 0, none⟩) k c) ∧ RowAt w' g cur ∧ cur.length = c ∧ k ≤ c ∧ (c ≤ 1000 ∧ ¬ c = 2) ∧ (zrow a = some g ∨ g = w.heap.size) ∧ w.grownBy w' (zrow a) ∧ p cur k

theorem row_setRow {w : World} {g : Nat} {cur : List Int} {t : TypeId} (h : w.heap[g]? = some (.cells (row cur) t (0, 0))) (xs : List Int) (c : Array Value) (hc : c = row xs) : (w.setRow g c).heap[g]? = some (.cells (row xs) t (0, 0)) := by
  rw [hc]; exact setRow_heap w g _ _ t _ h

theorem grownBy_of {a : Option Addr} {w w1 w2 : World} {g : Nat} (hb : Below w.heap.size w w1) (hg : zrow a = some g ∨ g = w.heap.size) (h1 : w2.os = w1.os) (h2 : w2.tape = w1.tape) (h3 : w2.output = w1.output) (h4 : w1.heap.size ≤ w2.heap.size)
    (h5 : ∀ k, ¬ k = g → w2.heap[k]? = w1.heap[k]?) : w.grownBy w2 (zrow a) := by
  refine ⟨h1.trans hb.os, h2.trans hb.tape, h3.trans hb.output, Nat.le_trans hb.size h4, fun k hk hne => ?_⟩
  rw [h5 k (fun e => by subst e; rcases hg with hg | hg; exact hne hg.symm; omega), hb.block k hk]

theorem info38sz : (Try.prog.info? 38).map (·.size) = some 1 := by kernel_rfl

set_option maxHeartbeats 800000 in
theorem set1 (a : Option Addr) (l c gx cx : Nat) (x0 : Int) (w : World) (hz : ZIs w a c) (hx0 : w.cell? ⟨gx, 0, none⟩ = some (.int .u64 x0)) :
    Calls Try.prog 25 #[.slice a l c, .slice (some ⟨gx, 0, none⟩) 1 cx] w fun e w' => NatOut a (fun cur k => k = 1 ∧ cur.take 1 = [x0]) w e w' := by
  have HZ : Hid (ZIs w a c) := hz
  clear hz
  go_enter Try.func25, Try.ntmps25
  go_wp2_with fail
  refine (make1 a l c w HZ.out).mono ?_
  rintro e w1 ⟨g, c', cur, rfl, hr, hl, hle, h1000, hb, hg⟩
  have k0 : w1.cell? ⟨gx, 0, none⟩ = some (.int .u64 x0) := (hb.cell (p := ⟨gx, 0, none⟩) (World.block_lt_of_cell? w _ hx0)).trans hx0
  have HR : Hid (RowAt w1 g cur) := hr
  have HB : Hid (Below w.heap.size w w1) := hb
  have HG : Hid (zrow a = some g ∨ g = w.heap.size) := hg
  have HL : Hid (cur.length = c') := hl
  clear hr hb hg hl HZ hx0
  go_wp2_with (refine wpList_copy_own rfl (.tmp 9) (.tmp 10) 66 66 rfl 38 Try.underlying66 info38sz g 0 1 c' ⟨gx, 0, none⟩ 1 cx rfl rfl (row cur) 38 HR.out [.int .u64 x0] (by rfl) ?hs ?hf ?h1 ?_)
  case hs =>
      intro j v hj
      match j, hj with
      | 0, hj => simp at hj; subst hj; exact k0
  case hf => rw [row_size]; have := HL.out; simp; omega
  case h1 => intro v hv; simp at hv; first | (subst hv; rfl) | (rcases hv with rfl | rfl <;> rfl)
  go_wp2
  go_ret
  have hl := HL.out
  refine ⟨g, 1, c', [x0] ++ cur.drop 1, rfl, ?_, by simp; omega, hle, h1000, HG.out, ?_, rfl, by simp⟩
  · exact row_setRow HR.out _ _ (by simp [row])
  · exact grownBy_of HB.out HG.out rfl rfl rfl (by simp [World.setRow]) (fun k hk => setRow_other _ _ _ _ hk)

set_option maxHeartbeats 800000 in
theorem set2 (a : Option Addr) (l c gx cx : Nat) (x0 x1 : Int) (w : World) (hz : ZIs w a c) (hx0 : w.cell? ⟨gx, 0, none⟩ = some (.int .u64 x0)) (hx1 : w.cell? ⟨gx, 1, none⟩ = some (.int .u64 x1)) :
    Calls Try.prog 25 #[.slice a l c, .slice (some ⟨gx, 0, none⟩) 2 cx] w fun e w' => NatOut a (fun cur k => k = 2 ∧ cur.take 2 = [x0, x1]) w e w' := by
  have HZ : Hid (ZIs w a c) := hz
  clear hz
  go_enter Try.func25, Try.ntmps25
  go_wp2_with fail
  refine (make2 a l c w HZ.out).mono ?_
  rintro e w1 ⟨g, c', cur, rfl, hr, hl, hle, h1000, hb, hg⟩
  have k0 : w1.cell? ⟨gx, 0, none⟩ = some (.int .u64 x0) := (hb.cell (p := ⟨gx, 0, none⟩) (World.block_lt_of_cell? w _ hx0)).trans hx0
  have k1 : w1.cell? ⟨gx, 1, none⟩ = some (.int .u64 x1) := (hb.cell (p := ⟨gx, 1, none⟩) (World.block_lt_of_cell? w _ hx1)).trans hx1
  have HR : Hid (RowAt w1 g cur) := hr
  have HB : Hid (Below w.heap.size w w1) := hb
  have HG : Hid (zrow a = some g ∨ g = w.heap.size) := hg
  have HL : Hid (cur.length = c') := hl
  clear hr hb hg hl HZ hx0 hx1
  go_wp2_with (refine wpList_copy_own rfl (.tmp 9) (.tmp 10) 66 66 rfl 38 Try.underlying66 info38sz g 0 2 c' ⟨gx, 0, none⟩ 2 cx rfl rfl (row cur) 38 HR.out [.int .u64 x0, .int .u64 x1] (by rfl) ?hs ?hf ?h1 ?_)
  case hs =>
      intro j v hj
      match j, hj with
      | 0, hj => simp at hj; subst hj; exact k0
      | 1, hj => simp at hj; subst hj; exact k1
  case hf => rw [row_size]; have := HL.out; simp; omega
  case h1 => intro v hv; simp at hv; first | (subst hv; rfl) | (rcases hv with rfl | rfl <;> rfl)
  go_wp2
  go_ret
  have hl := HL.out
  refine ⟨g, 2, c', [x0, x1] ++ cur.drop 2, rfl, ?_, by simp; omega, hle, h1000, HG.out, ?_, rfl, by simp⟩
  · exact row_setRow HR.out _ _ (by simp [row])
  · exact grownBy_of HB.out HG.out rfl rfl rfl (by simp [World.setRow]) (fun k hk => setRow_other _ _ _ _ hk)

end Go.Proofs.Qxb6627829a
