/-
  (*Plan).SharesGranted: the exact sum, as a big.Int of the call's own.
-/
import Derived.Test.Qxb6627829aPlan
import Derived.Test.Qxb6627829aNewInt
namespace Go.Proofs.Qxb6627829a
open Go.RowKit

/-- The 21 cells of a grant whose entries lie in block g. -/
def gcells (g L : Nat) : List Value := [.string ByteArray.empty, .int .u64 0, .int .i64 0, .pointer none, .int .u64 0, .int .i64 0, .pointer none, .pointer none, .pointer none, .map none, .slice none 0 0, .string ByteArray.empty, .pointer none, .pointer none, .pointer none, .int .i64 0, .pointer none, .pointer none, .slice (some ⟨g, 0, none⟩) L L, .pointer none, .map none]

/-- The grants that a plan's slice shows: m of them from place off of block gb on. -/
def GV (B : Nat) (w : World) (gb off m : Nat) (rows : List (List Int)) : Prop :=
  rows.length = m ∧ gb < B ∧ ∀ i, i < m → ∃ g, g < B ∧ w.rangeAt gb (off + i * 21) (gcells g (rows.getD i []).length) ∧
    (∀ j, -9223372036854775808 ≤ (rows.getD i []).getD j 0 ∧ (rows.getD i []).getD j 0 ≤ 9223372036854775807) ∧
    ∀ j, j < (rows.getD i []).length → w.rangeAt g (j * 4) [.string ByteArray.empty, .string ByteArray.empty, .int .i64 0, .int .i64 ((rows.getD i []).getD j 0)]

theorem rangeAt_below {B : Nat} {w w' : World} {b o : Nat} {cs : List Value} (h : w.rangeAt b o cs) (hb : Below B w w') (hB : b < B) : w'.rangeAt b o cs := fun j v hv => (hb.cell (p := ⟨b, o + j, none⟩) hB).trans (h j v hv)

def rsum (zs : List Int) (j : Nat) : Int := (zs.take j).sum
def tsum (rows : List (List Int)) (k : Nat) : Int := ((rows.take k).map List.sum).sum

theorem rsum_succ (zs : List Int) (j : Nat) (h : j < zs.length) : rsum zs (j + 1) = rsum zs j + zs.getD j 0 := by
  unfold rsum; rw [List.take_succ_eq_append_getElem h, List.sum_append]; simp [List.getD, h]
theorem tsum_succ (rows : List (List Int)) (k : Nat) (h : k < rows.length) : tsum rows (k + 1) = tsum rows k + rsum (rows.getD k []) (rows.getD k []).length := by
  unfold tsum rsum; rw [List.take_succ_eq_append_getElem h, List.map_append, List.sum_append]; simp [List.getD, h]
theorem rsum_bound (zs : List Int) (h : ∀ j, -9223372036854775808 ≤ zs.getD j 0 ∧ zs.getD j 0 ≤ 9223372036854775807) (j : Nat) (hj : j ≤ zs.length) : -(9223372036854775808 * (j : Int)) ≤ rsum zs j ∧ rsum zs j ≤ 9223372036854775808 * (j : Int) := by
  induction j with
  | zero => exact ⟨by simp [rsum], by simp [rsum]⟩
  | succ j ih =>
    rw [rsum_succ zs j hj]
    have := ih (by omega)
    have := h j
    omega
def Small (rows : List (List Int)) : Prop := rows.length ≤ 65536 ∧ (∀ i, (rows.getD i []).length ≤ 131072) ∧ ∀ i j, -9223372036854775808 ≤ (rows.getD i []).getD j 0 ∧ (rows.getD i []).getD j 0 ≤ 9223372036854775807
theorem tsum_bound (rows : List (List Int)) (h : Small rows) (k : Nat) (hk : k ≤ rows.length) : -(1208925819614629174706176 * (k : Int)) ≤ tsum rows k ∧ tsum rows k ≤ 1208925819614629174706176 * (k : Int) := by
  induction k with
  | zero => exact ⟨by simp [tsum], by simp [tsum]⟩
  | succ k ih =>
    rw [tsum_succ rows k hk]
    have := ih (by omega)
    have h1 := rsum_bound (rows.getD k []) (h.2.2 k) _ (Nat.le_refl _)
    have := h.2.1 k
    omega

theorem BigAt.below {B : Nat} {w w' : World} {p : Nat} {V : Int} (h : BigAt B w p V) (hb : Below w.heap.size w w') : BigAt B w' p V := by
  obtain ⟨neg, ao, n, c, ws, h1, h2, h3⟩ := h
  refine ⟨neg, ao, n, c, ws, (hb.block p (lt_of_block h1)).trans h1, ?_, h3⟩
  obtain ⟨g1, g2, g3, g4⟩ := h2
  refine ⟨g1, g2, g3, ?_⟩
  rcases g4 with g4 | ⟨g, cur, e1, e2, e3⟩
  · exact .inl g4
  · exact .inr ⟨g, cur, e1, e2.below hb e2.lt, e3⟩

theorem below_setCells {B : Nat} {w0 : World} (b : Nat) (hB : B ≤ b) : ∀ (vs : List Value) (o : Nat) (w : World), Below B w0 w → Below B w0 (w.setCells b o vs)
  | [], _, _, h => h
  | v :: vs, o, _, h => below_setCells b hB vs (o + 1) _ (h.setCell hB v)

theorem there_of {W : World} {g : Nat} {zc : Array Value} {t : TypeId} {n : Nat} (hh : W.heap[g]? = some (.cells zc t (0, 0))) (hz : zc.size = n) : W.there g 0 n := fun j hj =>
  ⟨by simp [World.cell?, hh, show j < zc.size by omega], by simp [World.frozen?, hh]⟩
theorem there_new {wr : World} {zc : Array Value} {t : TypeId} {n : Nat} (hz : zc.size = n) : (wr.alloc (.cells zc t)).there wr.heap.size 0 n := there_of (heap_alloc_new wr _) hz
/-- A struct stored into a new variable. -/
theorem laid {wr : World} {zc : Array Value} {t : TypeId} {cs : List Value} (hz : zc.size = cs.length) : Below wr.heap.size wr ((wr.alloc (.cells zc t)).setCells wr.heap.size 0 cs) ∧ ((wr.alloc (.cells zc t)).setCells wr.heap.size 0 cs).rangeAt wr.heap.size 0 cs :=
  ⟨below_setCells _ (Nat.le_refl _) _ _ _ ((Below.refl _ _).alloc (Nat.le_refl _) _), World.rangeAt_setCells_same _ _ _ _ (there_new hz)⟩

/-- A whole struct stored into a variable that was just laid: the world behind it is a letter. -/
theorem wpList_store_new {P : Program} {ops : Array Oper} {rest : List Oper} {op : Oper} {a : Act} {Q : Exit → Act → World → Prop} (wr : World) (zc : Array Value) (t : TypeId) (hgd : op.guard = none) (ty : TypeId) (x y : Operand) (ho : op.op = .store ty x y)
    (cs : List Value) (hx : a.eval x = .pointer (some ⟨wr.heap.size, 0, none⟩)) (hy : a.eval y = .agg cs.toArray) (hz : zc.size = cs.length) (hi : (P.info? ty).map (·.size) = some cs.length) (h1 : ∀ v ∈ cs, v.oneCell' = true)
    (h : ∀ w', Below wr.heap.size wr w' → wr.heap.size < w'.heap.size → Hid (w'.rangeAt wr.heap.size 0 cs) → wpList P ops Q rest (a.put op.dst undef) w') : wpList P ops Q (op :: rest) a (wr.alloc (.cells zc t)) := by
  refine wpList_store_mid hgd ty x y ho wr.heap.size 0 cs.toArray hx hy (there_new (by simpa using hz)) (by simpa using hi) (all_oneCell_toArray h1) ?_
  obtain ⟨l1, l2⟩ := laid (wr := wr) (zc := zc) (t := t) hz
  have hsz : wr.heap.size < ((wr.alloc (.cells zc t)).setCells wr.heap.size 0 cs).heap.size := by
    have h2 := (below_setCells (B := 0) (w0 := wr.alloc (.cells zc t)) wr.heap.size (Nat.zero_le _) cs 0 _ (Below.refl _ _)).size
    simp at h2; omega
  exact h _ l1 hsz l2

theorem gcells_one (g L : Nat) : ∀ v ∈ gcells g L, v.oneCell' = true := by
  intro v hv
  simp only [gcells, List.mem_cons, List.not_mem_nil, or_false] at hv
  rcases hv with h | h | h | h | h | h | h | h | h | h | h | h | h | h | h | h | h | h | h | h | h <;> (subst h; rfl)

set_option maxHeartbeats 3200000 in
set_option maxRecDepth 100000 in
theorem granted_some (pp gb off m c : Nat) (rows : List (List Int)) (w : World) (hp : w.cell? ⟨pp, 6, none⟩ = some (.slice (some ⟨gb, off, none⟩) m c)) (hg : GV w.heap.size w gb off m rows) (hs : Small rows) :
    Calls Try.prog 7 #[.pointer (some ⟨pp, 0, none⟩)] w fun e w' => ∃ p, e = .returned (.pointer (some ⟨p, 0, none⟩)) ∧ BigAt w.heap.size w' p (tsum rows m) ∧ Below w.heap.size w w' := by
  have HG : Hid (GV w.heap.size w gb off m rows) := hg
  have HSM : Hid (Small rows) := hs
  have hm : m ≤ 65536 := by have := hs.1; have := hg.1; omega
  clear hg hs
  have hpl : pp < w.heap.size := World.block_lt_of_cell? w _ hp
  have HB0 : Hid (BigAt w.heap.size (w.alloc (.cells #[.bool false, .slice none 0 0] 68)) w.heap.size 0) :=
    ⟨false, none, 0, 0, [], heap_alloc_new w _, ⟨rfl, ⟨by simp, fun i => by simp, .inl rfl⟩, Nat.le_refl _, .inl ⟨rfl, rfl⟩⟩, rfl, fun h => (by cases h), Nat.le_refl _, fun g hg => by simp [zrow] at hg⟩
  have HBL0 : Hid (Below w.heap.size w (w.alloc (.cells #[.bool false, .slice none 0 0] 68))) := (Below.refl _ _).alloc (Nat.le_refl _) _
  go_enter Try.func7, Try.ntmps7
  go_wp2
  go_loopw [14] (fun v14 wr => ∃ k : Nat, (k : Int) ≤ m ∧ v14 = .int .i64 k ∧ Hid (BigAt w.heap.size wr w.heap.size (tsum rows k)) ∧ Hid (Below w.heap.size w wr)) (fun v14 _ => m - (intOf v14).toNat)
  case atStart => exact ⟨0, by omega, rfl, HB0, HBL0⟩
  case round =>
    obtain ⟨k, hk, rfl, HBG, HBL⟩ := hrel
    clear HB0 HBL0
    by_cases hlt : k < m
    · obtain ⟨g, hgB, hrange, hbd, hent⟩ := HG.out.2.2 k hlt
      obtain ⟨zs, ezs⟩ : ∃ zs, zs = rows.getD k [] := ⟨_, rfl⟩
      rw [← ezs] at hrange hbd hent
      have EZ : Hid (zs = rows.getD k []) := ezs
      have hL : zs.length ≤ 131072 := by rw [ezs]; exact HSM.out.2.1 k
      obtain ⟨L, eL⟩ : ∃ L, L = zs.length := ⟨_, rfl⟩
      rw [← eL] at hrange hent hL
      have EL : Hid (L = zs.length) := eL
      have HRG : Hid (wr.rangeAt gb (off + k * 21) (gcells g L)) := rangeAt_below hrange HBL.out HG.out.2.1
      have HBD : Hid (∀ j, -9223372036854775808 ≤ zs.getD j 0 ∧ zs.getD j 0 ≤ 9223372036854775807) := hbd
      have HEN : Hid (∀ j, j < L → w.rangeAt g (j * 4) [.string ByteArray.empty, .string ByteArray.empty, .int .i64 0, .int .i64 (zs.getD j 0)]) := hent
      clear ezs eL hrange hbd hent
      have hki : (k : Int) < (m : Int) := by omega
      go_wp2_with (first | (refine wpList_load_mid rfl 65 (.tmp 16) rfl gb (off + k * 21) rfl (gcells g L) _ HRG.out Try.underlying65 rfl (by kernel_rfl) ?_) | (refine wpList_store_new wr _ 65 rfl 65 (.tmp 5) (.tmp 17) rfl (gcells g L) rfl rfl rfl (by kernel_rfl) (gcells_one g L) ?_))
      intro w2 hb2 hs2 HR2
      have h18 : w2.cell? ⟨wr.heap.size, 18, none⟩ = some (.slice (some ⟨g, 0, none⟩) L L) := HR2.out 18 _ rfl
      have HBG2 : Hid (BigAt w.heap.size w2 w.heap.size (tsum rows k + rsum zs 0)) := by
        have := HBG.out.below hb2
        unfold Hid
        rw [show rsum zs 0 = 0 from rfl, Int.add_zero]
        exact this
      have HBL2 : Hid (Below w.heap.size w w2) := HBL.out.trans (hb2.mono HBL.out.size)
      clear hb2 hs2 HR2 HBG HBL HRG
      go_wp2
      go_loopw [21] (fun v21 wq => ∃ j : Nat, (j : Int) ≤ L ∧ v21 = .int .i64 j ∧ Hid (BigAt w.heap.size wq w.heap.size (tsum rows k + rsum zs j)) ∧ Hid (Below w.heap.size w wq)) (fun v21 _ => L - (intOf v21).toNat)
      case atStart => exact ⟨0, by omega, rfl, HBG2, HBL2⟩
      case round =>
        obtain ⟨j, hj, rfl, HBG, HBL⟩ := hrel
        clear HBG2 HBL2 h18
        by_cases hjl : j < L
        · obtain ⟨z, ez⟩ : ∃ z, z = zs.getD j 0 := ⟨_, rfl⟩
          have hent := HEN.out j hjl
          have hzb := HBD.out j
          rw [← ez] at hent hzb
          have HRG : Hid (wr.rangeAt g (j * 4) [.string ByteArray.empty, .string ByteArray.empty, .int .i64 0, .int .i64 z]) := rangeAt_below hent HBL.out hgB
          have EZJ : Hid (rsum zs (j + 1) = rsum zs j + z) := by unfold Hid; rw [ez]; exact rsum_succ zs j (by rw [← EL.out]; exact hjl)
          obtain ⟨hz1, hz2⟩ := hzb
          clear ez hent
          have hji : (j : Int) < (L : Int) := by omega
          go_wp2_with (first | (refine wpList_load_mid rfl 50 (.tmp 23) rfl g (j * 4) rfl [.string ByteArray.empty, .string ByteArray.empty, .int .i64 0, .int .i64 z] _ HRG.out Try.underlying50 rfl (by kernel_rfl) ?_) | (refine wpList_store_new wr _ 50 rfl 50 (.tmp 7) (.tmp 24) rfl [.string ByteArray.empty, .string ByteArray.empty, .int .i64 0, .int .i64 z] rfl rfl rfl (by kernel_rfl) (by simp [Value.oneCell']) ?_))
          intro w3 hb3 hs3 HR3
          have h3 : w3.cell? ⟨wr.heap.size, 3, none⟩ = some (.int .i64 z) := HR3.out 3 _ rfl
          have HB3 : Hid (Below wr.heap.size wr w3) := hb3
          clear hb3 HR3 HRG
          go_wp2_with fail
          refine (newInt_any z w3 hz1 hz2).mono ?_
          rintro e w4 ⟨p, rfl, hbig, hb4⟩
          have HQ : Hid (BigAt w3.heap.size w4 p z) := hbig
          have HB4 : Hid (Below w.heap.size w w4) := (HBL.out.trans (HB3.out.mono HBL.out.size)).trans (hb4.mono (Nat.le_trans HBL.out.size HB3.out.size))
          have HG4 : Hid (BigAt w.heap.size w4 w.heap.size (tsum rows k + rsum zs j)) := (HBG.out.below HB3.out).below hb4
          have HBN : Hid (((tsum rows k + rsum zs j).natAbs : Int) + z.natAbs ≤ 340282366920938463463374607431768211455) := by
            have t1 := tsum_bound rows HSM.out k (by rw [HG.out.1]; omega)
            have t2 := rsum_bound zs HBD.out j (by rw [← EL.out]; omega)
            unfold Hid
            omega
          clear hbig hb4 HBG HBL h3 HB3 hs3
          go_wp2_with fail
          refine (bigAdd w.heap.size w3.heap.size w.heap.size p _ z w4 HG4.out HQ.out HBN.out).mono ?_
          rintro e w5 ⟨rfl, hbig, hb5⟩
          have HNX : Hid (BigAt w.heap.size w5 w.heap.size (tsum rows k + rsum zs (j + 1))) := by
            unfold Hid; rw [EZJ.out, ← Int.add_assoc]; exact hbig
          have HBX : Hid (Below w.heap.size w w5) := HB4.out.trans hb5
          clear hbig hb5 HQ HB4 HG4 HBN
          go_wp2
          go_roundw
          case rel => exact ⟨j + 1, by omega, by go_num, HNX, HBX⟩
          case measure => simp [intOf]; omega
        · obtain rfl : j = L := by omega
          have HNX : Hid (BigAt w.heap.size wr w.heap.size (tsum rows (k + 1))) := by
            unfold Hid
            rw [tsum_succ rows k (by rw [HG.out.1]; exact hlt), ← EZ.out, ← EL.out]
            exact HBG.out
          clear HBG
          go_wp2
          go_roundw
          case rel => exact ⟨k + 1, by omega, by go_num, HNX, HBL⟩
          case measure => simp [intOf]; omega
    · obtain rfl : k = m := by omega
      go_wp2
      go_ret
      exact ⟨w.heap.size, rfl, HBG.out, HBL.out⟩

end Go.Proofs.Qxb6627829a
