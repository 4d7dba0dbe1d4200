/-
  nat.sub at one and two words.
-/
import Derived.Test.Qxb6627829aAdd
import Derived.Deep.RegionWith
namespace Go.Proofs.Qxb6627829a
open Go.RowKit

set_option maxHeartbeats 3200000 in
theorem nsub11 (a : Option Addr) (l c gx cx gy cy : Nat) (x0 y0 : Int) (w : World) (hz : ZIs w a c) (hx0 : w.cell? ⟨gx, 0, none⟩ = some (.int .u64 x0)) (hy0 : w.cell? ⟨gy, 0, none⟩ = some (.int .u64 y0)) (hcx : 1 ≤ cx) (hcy : 1 ≤ cy) (px0 : 0 ≤ x0) (py0 : 0 ≤ y0) (qy0 : y0 ≤ 18446744073709551615) (hge : bor x0 y0 = 0) :
    Calls Try.prog 24 #[.slice a l c, .slice (some ⟨gx, 0, none⟩) 1 cx, .slice (some ⟨gy, 0, none⟩) 1 cy] w fun e w' => NatOut a (fun cur k => IsNorm cur 1 k ∧ cur.take 1 = [lo (x0 - y0)]) w e w' := by
  have HZ : Hid (ZIs w a c) := hz
  have hVV := subVV_enters
  clear hz
  go_enter Try.func24, Try.ntmps24
  go_wp2_with fail
  refine (make1 a l c w HZ.out).mono ?_
  rintro e w1 ⟨g, c', cur, rfl, hr, hl, hle, h1000, hb, hg⟩
  have k0 : w1.cell? ⟨gx, 0, none⟩ = some (.int .u64 x0) := (hb.cell (p := ⟨gx, 0, none⟩) (World.block_lt_of_cell? w _ hx0)).trans hx0
  have j0 : w1.cell? ⟨gy, 0, none⟩ = some (.int .u64 y0) := (hb.cell (p := ⟨gy, 0, none⟩) (World.block_lt_of_cell? w _ hy0)).trans hy0
  have z0 := hr.cell 0 (by omega)
  have f0 := hr.free 0
  have HR : Hid (RowAt w1 g cur) := hr
  have HB : Hid (Below w.heap.size w w1) := hb
  have HG : Hid (zrow a = some g ∨ g = w.heap.size) := hg
  have HL : Hid (cur.length = c') := hl
  generalize cur.getD 0 0 = v0 at z0
  clear hr hb hg hl HZ hx0 hy0
  have i1 : (1 : Int) ≤ (c' : Int) := by omega
  have i2 : (1 : Int) ≤ (cx : Int) := by omega
  have i3 : (1 : Int) ≤ (cy : Int) := by omega
  go_wp2_with fail
  go_region_with (go_at_call 17; refine (subVV1 g gx gy _ _ _ x0 y0 v0 _ ?_ ?_ ?_ ?_ px0 py0 qy0).mono ?_; (simp [*]); (simp [*]); (simp [*]); (simp [*]); rintro e w2 ⟨rfl, m, rfl⟩)
  go_wp2_with fail
  have hl := HL.out
  refine (norm_any g 1 c' (cur.set 0 (lo (x0 - y0))) _ (by exact HR.out.set 0 _) (by simp; omega) (by omega) (by omega) (by omega)).mono ?_
  rintro e w4 ⟨⟨j, rfl, hN⟩, hw4⟩
  obtain rfl := hw4.symm
  go_wp2
  go_ret
  refine ⟨g, j, c', (cur.set 0 (lo (x0 - y0))), rfl, (by exact HR.out.set 0 _), by simp; omega, Nat.le_trans hN.1 (by omega), by omega, HG.out, grownBy_of HB.out HG.out rfl rfl rfl (by simp [World.setCell]) (other1 rfl), hN, ?_⟩
  obtain ⟨u0, r, rfl⟩ : ∃ u0 r, cur = u0 :: r := by
    match cur, hl with
    | u0 :: r, _ => exact ⟨_, _, rfl⟩
    | [], h => simp at h <;> omega
  rfl

set_option maxHeartbeats 3200000 in
theorem nsub21 (a : Option Addr) (l c gx cx gy cy : Nat) (x0 x1 y0 : Int) (w : World) (hz : ZIs w a c) (hx0 : w.cell? ⟨gx, 0, none⟩ = some (.int .u64 x0)) (hx1 : w.cell? ⟨gx, 1, none⟩ = some (.int .u64 x1)) (hy0 : w.cell? ⟨gy, 0, none⟩ = some (.int .u64 y0)) (hcx : 2 ≤ cx) (hcy : 1 ≤ cy) (xc : Array Value) (hxb : w.heap[gx]? = some (.cells xc 38 (0, 0))) (px0 : 0 ≤ x0) (px1 : 0 ≤ x1) (py0 : 0 ≤ y0) (qy0 : y0 ≤ 18446744073709551615) (hge : bor x0 y0 ≤ x1) (qx1 : x1 ≤ 18446744073709551615) :
    Calls Try.prog 24 #[.slice a l c, .slice (some ⟨gx, 0, none⟩) 2 cx, .slice (some ⟨gy, 0, none⟩) 1 cy] w fun e w' => NatOut a (fun cur k => IsNorm cur 2 k ∧ cur.take 2 = [lo (x0 - y0), x1 - bor x0 y0]) w e w' := by
  have HZ : Hid (ZIs w a c) := hz
  have hVV := subVV_enters
  clear hz
  go_enter Try.func24, Try.ntmps24
  go_wp2_with fail
  refine (make2 a l c w HZ.out).mono ?_
  rintro e w1 ⟨g, c', cur, rfl, hr, hl, hle, h1000, hb, hg⟩
  have k0 : w1.cell? ⟨gx, 0, none⟩ = some (.int .u64 x0) := (hb.cell (p := ⟨gx, 0, none⟩) (World.block_lt_of_cell? w _ hx0)).trans hx0
  have k1 : w1.cell? ⟨gx, 1, none⟩ = some (.int .u64 x1) := (hb.cell (p := ⟨gx, 1, none⟩) (World.block_lt_of_cell? w _ hx1)).trans hx1
  have j0 : w1.cell? ⟨gy, 0, none⟩ = some (.int .u64 y0) := (hb.cell (p := ⟨gy, 0, none⟩) (World.block_lt_of_cell? w _ hy0)).trans hy0
  have z0 := hr.cell 0 (by omega)
  have f0 := hr.free 0
  have z1 := hr.cell 1 (by omega)
  have f1 := hr.free 1
  have HXB : Hid (w1.heap[gx]? = some (.cells xc 38 (0, 0))) := (hb.block gx (World.block_lt_of_cell? w _ hx0)).trans hxb
  clear hxb
  have HR : Hid (RowAt w1 g cur) := hr
  have HB : Hid (Below w.heap.size w w1) := hb
  have HG : Hid (zrow a = some g ∨ g = w.heap.size) := hg
  have HL : Hid (cur.length = c') := hl
  generalize cur.getD 0 0 = v0 at z0
  generalize cur.getD 1 0 = v1 at z1
  clear hr hb hg hl HZ hx0 hx1 hy0
  obtain ⟨d, rfl⟩ : ∃ d, c' = d + 3 := ⟨c' - 3, by omega⟩
  obtain ⟨e, rfl⟩ : ∃ e, cx = e + 2 := ⟨cx - 2, by omega⟩
  have i1 : (1 : Int) ≤ (d : Int) + 3 := by omega
  have i2 : (1 : Int) ≤ (e : Int) + 2 := by omega
  have i3 : (1 : Int) ≤ (cy : Int) := by omega
  have i4 : (2 : Int) ≤ (d : Int) + 3 := by omega
  have i5 : (2 : Int) ≤ (e : Int) + 2 := by omega
  obtain ⟨xc', hxc⟩ : ∃ xc', ∀ q, ((w1.setCell ⟨g, 0, none⟩ (.int .u64 (lo (x0 - y0)))).drewN q).heap[gx]? = some (.cells xc' 38 (0, 0)) := by
    by_cases hgg : gx = g
    · subst hgg; exact ⟨_, fun _ => HR.out.set 0 _⟩
    · exact ⟨xc, fun _ => (other1 rfl gx hgg).trans HXB.out⟩
  have HXC : Hid (∀ q, ((w1.setCell ⟨g, 0, none⟩ (.int .u64 (lo (x0 - y0)))).drewN q).heap[gx]? = some (.cells xc' 38 (0, 0))) := hxc
  clear hxc HXB
  have b0 : 0 ≤ bor x0 y0 := (bor_01 x0 y0).1
  go_wp2_with fail
  go_region_with (go_at_call 17; refine (subVV1 g gx gy _ _ _ x0 y0 v0 _ ?_ ?_ ?_ ?_ px0 py0 qy0).mono ?_; (simp [*]); (simp [*]); (simp [*]); (simp [*]); rintro e w2 ⟨rfl, m, rfl⟩)
  go_wp2_with fail
  go_region_with (go_at_call 32; refine (subVW_any g gx d e x1 (bor x0 y0) (row (cur.set 0 (lo (x0 - y0)))) xc' _ (by exact HR.out.set 0 _) (by exact HXC.out _) ?_ v1 ?_ ?_ px1 b0 hge qx1).mono ?_; (simp [*, go_sem]); (simp [*, go_sem]); (simp [*, go_sem]); rintro e w3 ⟨rfl, m2, rfl⟩)
  go_wp2_with fail
  have hl := HL.out
  refine (norm_any g 2 (d + 3) ((cur.set 0 (lo (x0 - y0))).set 1 (x1 - bor x0 y0)) _ (by exact (HR.out.set 0 _).set 1 _) (by simp; omega) (by omega) (by omega) (by omega)).mono ?_
  rintro e w4 ⟨⟨j, rfl, hN⟩, hw4⟩
  obtain rfl := hw4.symm
  go_wp2
  go_ret
  refine ⟨g, j, (d + 3), ((cur.set 0 (lo (x0 - y0))).set 1 (x1 - bor x0 y0)), rfl, (by exact (HR.out.set 0 _).set 1 _), by simp; omega, Nat.le_trans hN.1 (by omega), by omega, HG.out, grownBy_of HB.out HG.out rfl rfl rfl (by simp [World.setCell]) (other2 rfl (other1 rfl)), hN, ?_⟩
  obtain ⟨u0, u1, r, rfl⟩ : ∃ u0 u1 r, cur = u0 :: u1 :: r := by
    match cur, hl with
    | u0 :: u1 :: r, _ => exact ⟨_, _, _, rfl⟩
    | [], h => simp at h <;> omega
    | [_], h => simp at h <;> omega
  rfl

set_option maxHeartbeats 3200000 in
theorem nsub22 (a : Option Addr) (l c gx cx gy cy : Nat) (x0 x1 y0 y1 : Int) (w : World) (hz : ZIs w a c) (hx0 : w.cell? ⟨gx, 0, none⟩ = some (.int .u64 x0)) (hx1 : w.cell? ⟨gx, 1, none⟩ = some (.int .u64 x1)) (hy0 : w.cell? ⟨gy, 0, none⟩ = some (.int .u64 y0)) (hy1 : w.cell? ⟨gy, 1, none⟩ = some (.int .u64 y1)) (hcx : 2 ≤ cx) (hcy : 2 ≤ cy) (px0 : 0 ≤ x0) (px1 : 0 ≤ x1) (py0 : 0 ≤ y0) (py1 : 0 ≤ y1) (qy0 : y0 ≤ 18446744073709551615) (qy1 : y1 ≤ 18446744073709551615) (hge : bor x1 (y1 + bor x0 y0) = 0) :
    Calls Try.prog 24 #[.slice a l c, .slice (some ⟨gx, 0, none⟩) 2 cx, .slice (some ⟨gy, 0, none⟩) 2 cy] w fun e w' => NatOut a (fun cur k => IsNorm cur 2 k ∧ cur.take 2 = [lo (x0 - y0), lo (x1 - y1 - bor x0 y0)]) w e w' := by
  have HZ : Hid (ZIs w a c) := hz
  have hVV := subVV_enters
  clear hz
  go_enter Try.func24, Try.ntmps24
  go_wp2_with fail
  refine (make2 a l c w HZ.out).mono ?_
  rintro e w1 ⟨g, c', cur, rfl, hr, hl, hle, h1000, hb, hg⟩
  have k0 : w1.cell? ⟨gx, 0, none⟩ = some (.int .u64 x0) := (hb.cell (p := ⟨gx, 0, none⟩) (World.block_lt_of_cell? w _ hx0)).trans hx0
  have k1 : w1.cell? ⟨gx, 1, none⟩ = some (.int .u64 x1) := (hb.cell (p := ⟨gx, 1, none⟩) (World.block_lt_of_cell? w _ hx1)).trans hx1
  have j0 : w1.cell? ⟨gy, 0, none⟩ = some (.int .u64 y0) := (hb.cell (p := ⟨gy, 0, none⟩) (World.block_lt_of_cell? w _ hy0)).trans hy0
  have j1 : w1.cell? ⟨gy, 1, none⟩ = some (.int .u64 y1) := (hb.cell (p := ⟨gy, 1, none⟩) (World.block_lt_of_cell? w _ hy1)).trans hy1
  have z0 := hr.cell 0 (by omega)
  have f0 := hr.free 0
  have z1 := hr.cell 1 (by omega)
  have f1 := hr.free 1
  have HR : Hid (RowAt w1 g cur) := hr
  have HB : Hid (Below w.heap.size w w1) := hb
  have HG : Hid (zrow a = some g ∨ g = w.heap.size) := hg
  have HL : Hid (cur.length = c') := hl
  generalize cur.getD 0 0 = v0 at z0
  generalize cur.getD 1 0 = v1 at z1
  clear hr hb hg hl HZ hx0 hx1 hy0 hy1
  have i1 : (2 : Int) ≤ (c' : Int) := by omega
  have i2 : (2 : Int) ≤ (cx : Int) := by omega
  have i3 : (2 : Int) ≤ (cy : Int) := by omega
  go_wp2_with fail
  go_region_with (go_at_call 17; refine (subVV2 g gx gy _ _ _ x0 y0 v0 x1 y1 v1 _ ?_ ?_ ?_ ?_ ?_ ?_ ?_ ?_ px0 py0 px1 py1 qy0 qy1).mono ?_; (simp [*]); (simp [*]); (simp [*]); (simp [*]); (simp [*]); (simp [*]); (simp [*]); (simp [*]); rintro e w2 ⟨rfl, m, rfl⟩)
  go_wp2_with fail
  have hl := HL.out
  refine (norm_any g 2 c' ((cur.set 0 (lo (x0 - y0))).set 1 (lo (x1 - y1 - bor x0 y0))) _ (by exact (HR.out.set 0 _).set 1 _) (by simp; omega) (by omega) (by omega) (by omega)).mono ?_
  rintro e w4 ⟨⟨j, rfl, hN⟩, hw4⟩
  obtain rfl := hw4.symm
  go_wp2
  go_ret
  refine ⟨g, j, c', ((cur.set 0 (lo (x0 - y0))).set 1 (lo (x1 - y1 - bor x0 y0))), rfl, (by exact (HR.out.set 0 _).set 1 _), by simp; omega, Nat.le_trans hN.1 (by omega), by omega, HG.out, grownBy_of HB.out HG.out rfl rfl rfl (by simp [World.setCell]) (other1' rfl (other1 rfl)), hN, ?_⟩
  obtain ⟨u0, u1, r, rfl⟩ : ∃ u0 u1 r, cur = u0 :: u1 :: r := by
    match cur, hl with
    | u0 :: u1 :: r, _ => exact ⟨_, _, _, rfl⟩
    | [], h => simp at h <;> omega
    | [_], h => simp at h <;> omega
  rfl

end Go.Proofs.Qxb6627829a
