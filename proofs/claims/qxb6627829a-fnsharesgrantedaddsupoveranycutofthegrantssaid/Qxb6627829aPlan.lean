/-
  The shares that came in; zzBuildPlan: the plan that it lays in memory.
-/
import Derived.Test.Qxb6627829aRows
import Derived.WalkKit
import Derived.WalkSpells
import Derived.WalkLawsBesides
import Derived.Handy
import Derived.Deep.OwnRows
import Derived.Deep.MidRow
namespace Go.Proofs.Qxb6627829a
open Go.RowKit

theorem info65 : (Try.prog.info? 65).map (fun i => (i.zero, i.size, i.bytes)) = some (some (.agg #[.string ByteArray.empty, .int .u64 0, .int .i64 0, .pointer none, .int .u64 0, .int .i64 0, .pointer none, .pointer none, .pointer none, .map none, .slice none 0 0, .string ByteArray.empty, .pointer none, .pointer none, .pointer none, .int .i64 0, .pointer none, .pointer none, .slice none 0 0, .pointer none, .map none]), 21, 216) := by kernel_rfl
theorem info50 : (Try.prog.info? 50).map (fun i => (i.zero, i.size, i.bytes)) = some (some (.agg #[.string ByteArray.empty, .string ByteArray.empty, .int .i64 0, .int .i64 0]), 4, 48) := by kernel_rfl

/-- One row of shares, as a slice value. -/
def RowV (B : Nat) (w : World) (v : Value) (zs : List Int) : Prop :=
  ∃ ra rc, v = .slice ra zs.length rc ∧ (∀ i, -9223372036854775808 ≤ zs.getD i 0 ∧ zs.getD i 0 ≤ 9223372036854775807) ∧
    (zs.length = 0 ∨ ∃ b off, ra = some ⟨b, off, none⟩ ∧ b < B ∧ ∀ j, j < zs.length → w.cell? ⟨b, off + j, none⟩ = some (.int .i64 (zs.getD j 0)))
/-- The shares: '.slice a n _' shows the rows. -/
def MV (B : Nat) (w : World) (a : Option Addr) (n : Nat) (rows : List (List Int)) : Prop :=
  rows.length = n ∧ (n = 0 ∨ ∃ b off, a = some ⟨b, off, none⟩ ∧ b < B ∧ ∀ i, i < n → ∃ v, w.cell? ⟨b, off + i, none⟩ = some v ∧ RowV B w v (rows.getD i []))

theorem RowV.below {B B' : Nat} {w w' : World} {v : Value} {zs : List Int} (h : RowV B w v zs) (hb : Below B' w w') (hB : B ≤ B') : RowV B w' v zs := by
  obtain ⟨ra, rc, h1, h2, h3⟩ := h
  refine ⟨ra, rc, h1, h2, ?_⟩
  rcases h3 with h3 | ⟨b, off, e1, e2, e3⟩
  · exact .inl h3
  · exact .inr ⟨b, off, e1, e2, fun j hj => (hb.cell (p := ⟨b, off + j, none⟩) (by simp; omega)).trans (e3 j hj)⟩
theorem MV.below {B B' : Nat} {w w' : World} {a : Option Addr} {n : Nat} {rows : List (List Int)} (h : MV B w a n rows) (hb : Below B' w w') (hB : B ≤ B') : MV B w' a n rows := by
  obtain ⟨h1, h2⟩ := h
  refine ⟨h1, ?_⟩
  rcases h2 with h2 | ⟨b, off, e1, e2, e3⟩
  · exact .inl h2
  · refine .inr ⟨b, off, e1, e2, fun i hi => ?_⟩
    obtain ⟨v, g1, g2⟩ := e3 i hi
    exact ⟨v, (hb.cell (p := ⟨b, off + i, none⟩) (by simp; omega)).trans g1, g2.below hb hB⟩

/-! ### rows of structs -/
def zGrant : Nat → Value := fun i => (#[.string ByteArray.empty, .int .u64 0, .int .i64 0, .pointer none, .int .u64 0, .int .i64 0, .pointer none, .pointer none, .pointer none, .map none, .slice none 0 0, .string ByteArray.empty, .pointer none, .pointer none, .pointer none, .int .i64 0, .pointer none, .pointer none, .slice none 0 0, .pointer none, .map none] : Array Value)[i % 21]!
def zGrantee : Nat → Value := fun i => (#[.string ByteArray.empty, .string ByteArray.empty, .int .i64 0, .int .i64 0] : Array Value)[i % 4]!

theorem rowIs_made {w : World} {base e g n size : Nat} {z : Array Value} (hz : z.size = size) (h : w.ownsRow base e size (.slice (some ⟨g, 0, none⟩) n n) n (madeCells z (n * size)).toList) : w.rowIs g e (n * size) (fun i => z[i % size]!) := by
  obtain ⟨_, h2⟩ := h
  rcases h2 with ⟨h2, _⟩ | ⟨g', cap, cur, hv, _, hh, _, _, hs, ht⟩
  · cases h2
  · simp at hv
    obtain ⟨rfl, rfl⟩ := hv
    have hc : cur = madeCells z (n * size) := by
      have : cur.toList.take (n * size) = cur.toList := List.take_of_length_le (by simp [hs])
      rw [this] at ht
      exact Array.toList_inj.1 ht
    subst hc
    refine ⟨_, hh, hs, fun i hi => ?_⟩
    subst hz
    simp [madeCells, hi]

/-- The cells of the grantees' row when the first j figures are laid. -/
def fGs (zs : List Int) (j : Nat) : Nat → Value := fun i => if i % 4 = 3 ∧ i / 4 < j then .int .i64 (zs.getD (i / 4) 0) else zGrantee i
/-- The cells of the grants' row when the first k are laid: A r is the block of grant r's entries. -/
def fG (A : Nat → Nat) (rows : List (List Int)) (k : Nat) : Nat → Value := fun i =>
  if i % 21 = 18 ∧ i / 21 < k then .slice (some ⟨A (i / 21), 0, none⟩) (rows.getD (i / 21) []).length (rows.getD (i / 21) []).length else zGrant i

theorem fGs_step (zs : List Int) (j i : Nat) : (if i = j * 4 + 3 then Value.int .i64 (zs.getD j 0) else fGs zs j i) = fGs zs (j + 1) i := by
  unfold fGs
  by_cases h : i = j * 4 + 3
  · subst h
    rw [if_pos rfl, if_pos ⟨by omega, by omega⟩, show (j * 4 + 3) / 4 = j by omega]
  · rw [if_neg h]
    by_cases h2 : i % 4 = 3 ∧ i / 4 < j
    · rw [if_pos h2, if_pos ⟨h2.1, by omega⟩]
    · rw [if_neg h2, if_neg (by omega)]
theorem fG_step (A : Nat → Nat) (rows : List (List Int)) (k g i : Nat) : (if i = k * 21 + 18 then Value.slice (some ⟨g, 0, none⟩) (rows.getD k []).length (rows.getD k []).length else fG A rows k i) = fG (fun r => if r = k then g else A r) rows (k + 1) i := by
  unfold fG
  by_cases h : i = k * 21 + 18
  · subst h
    rw [if_pos rfl, if_pos ⟨by omega, by omega⟩, show (k * 21 + 18) / 21 = k by omega]
    dsimp only
    rw [if_pos rfl]
  · rw [if_neg h]
    by_cases h2 : i % 21 = 18 ∧ i / 21 < k
    · rw [if_pos h2, if_pos ⟨h2.1, by omega⟩]
      dsimp only
      rw [if_neg (by omega)]
    · rw [if_neg h2, if_neg (by omega)]

/-- The plan's memory: the grants' row in block gb, the entries' rows in blocks A r. -/
structure PlanIn (B : Nat) (w0 w : World) (gb n : Nat) (A : Nat → Nat) (rows : List (List Int)) (k : Nat) : Prop where
  top : w.rowIs gb 65 (n * 21) (fG A rows k)
  row : ∀ r, r < k → w.rowIs (A r) 50 ((rows.getD r []).length * 4) (fGs (rows.getD r []) (rows.getD r []).length)
  far : ∀ r, r < k → ¬ A r = gb
  lo : ∀ r, r < k → B ≤ A r
  bel : Below B w0 w

theorem PlanIn.frame {B : Nat} {w0 w w' : World} {gb n k : Nat} {A : Nat → Nat} {rows : List (List Int)} (h : PlanIn B w0 w gb n A rows k) (hs : w.heap.size ≤ w'.heap.size) (hos : w'.os = w.os ∧ w'.tape = w.tape ∧ w'.output = w.output) (hb : ∀ j, j < w.heap.size → w'.heap[j]? = w.heap[j]?) (hB : B ≤ w.heap.size) : PlanIn B w0 w' gb n A rows k :=
  ⟨h.top.of_block (hb _ h.top.lt), fun r hr => (h.row r hr).of_block (hb _ (h.row r hr).lt), h.far, h.lo, h.bel.trans ⟨hos.1, hos.2.1, hos.2.2, hs, fun j hj => hb j (by omega)⟩⟩

theorem PlanIn.step {B : Nat} {w0 w : World} {gb n k g : Nat} {A : Nat → Nat} {rows : List (List Int)} (h : PlanIn B w0 w gb n A rows k) (hB : B ≤ gb) (hg : ¬ g = gb) (hgB : B ≤ g) (hr : w.rowIs g 50 ((rows.getD k []).length * 4) (fGs (rows.getD k []) (rows.getD k []).length)) :
    PlanIn B w0 (w.setCell ⟨gb, k * 21 + 18, none⟩ (.slice (some ⟨g, 0, none⟩) (rows.getD k []).length (rows.getD k []).length)) gb n (fun r => if r = k then g else A r) rows (k + 1) := by
  refine ⟨(h.top.set _ _).congr (fun i _ => fG_step A rows k g i), fun r hr' => ?_, fun r hr' => ?_, fun r hr' => ?_, h.bel.setCell hB _⟩
  · by_cases e : r = k
    · rw [if_pos e, e]; exact hr.setOther (by simpa using hg) _
    · rw [if_neg e]; exact (h.row r (by omega)).setOther (by simpa using h.far r (by omega)) _
  · by_cases e : r = k
    · rw [if_pos e]; exact hg
    · rw [if_neg e]; exact h.far r (by omega)
  · by_cases e : r = k
    · rw [if_pos e]; exact hgB
    · rw [if_neg e]; exact h.lo r (by omega)

theorem PlanIn.setOther {B : Nat} {w0 w : World} {gb n k : Nat} {A : Nat → Nat} {rows : List (List Int)} (h : PlanIn B w0 w gb n A rows k) {a : Addr} (hg : gb < a.block) (hA : ∀ r, r < k → A r < a.block) (hB : B ≤ a.block) (v : Value) : PlanIn B w0 (w.setCell a v) gb n A rows k :=
  ⟨h.top.setOther (by omega) v, fun r hr => (h.row r hr).setOther (by have := hA r hr; omega) v, h.far, h.lo, h.bel.setCell hB v⟩

set_option maxHeartbeats 3200000 in
set_option maxRecDepth 100000 in
theorem build_any (a : Option Addr) (n c : Nat) (rows : List (List Int)) (w : World) (hv : MV w.heap.size w a n rows) (hn : n ≤ 65536) (hl : ∀ i, (rows.getD i []).length ≤ 131072) :
    Calls Try.prog 6 #[.slice a n c] w fun e w' => ∃ A pp, e = .returned (.pointer (some ⟨pp, 0, none⟩)) ∧ w'.cell? ⟨pp, 6, none⟩ = some (.slice (some ⟨w.heap.size, 0, none⟩) n n) ∧ PlanIn w.heap.size w w' w.heap.size n A rows n := by
  have HV : Hid (MV w.heap.size w a n rows) := hv
  have HLn : Hid (∀ i, (rows.getD i []).length ≤ 131072) := hl
  clear hv hl
  obtain ⟨i0, hi, hz0, hz1, hz2⟩ := info_parts info65
  obtain ⟨j0, ji, jz0, jz1, jz2⟩ := info_parts info50
  go_enter Try.func6, Try.ntmps6
  go_wp2_with (at_make; refine wpList_make_full _ rfl (.tmp 9) (.tmp 9) 40 rfl w.heap.size 65 i0 _ 21 Try.underlying40 hi hz0 hz1 .i64 .i64 _ _ n rfl rfl rfl rfl ?b2 ?b3 ?b4 ?_)
  case b2 => rw [hz2]; omega
  case b3 => unfold maxLen; omega
  case b4 => exact Nat.le_refl _
  intro w1 hown1 hgrow1
  have HP1 : Hid (PlanIn w.heap.size w w1 w.heap.size n (fun _ => 0) rows 0) := ⟨(rowIs_made rfl hown1).congr (fun i _ => by unfold fG; rw [if_neg (by omega)]; rfl), fun r hr => by omega, fun r hr => by omega, fun r hr => by omega, (Below.refl _ _).grown hgrow1 (Nat.le_refl _) (fun k h => by cases h)⟩
  clear hown1 hgrow1
  go_wp2
  go_loopw [4] (fun v4 wr => ∃ (k : Nat) (A : Nat → Nat), (k : Int) ≤ n ∧ v4 = .int .i64 k ∧ Hid (PlanIn w.heap.size w wr w.heap.size n A rows k)) (fun v4 _ => n - (intOf v4).toNat)
  case atStart => exact ⟨0, _, by omega, rfl, HP1⟩
  case round =>
    obtain ⟨k, A, hk, rfl, HP⟩ := hrel
    clear HP1
    by_cases hlt : k < n
    · obtain ⟨b, off, rfl, hbB, ra, rc, zs, ezs, hcell, hrng, hrow⟩ : ∃ b off, a = some ⟨b, off, none⟩ ∧ b < w.heap.size ∧ ∃ ra rc zs, zs = rows.getD k [] ∧ wr.cell? ⟨b, off + k, none⟩ = some (.slice ra zs.length rc) ∧ (∀ i, -9223372036854775808 ≤ zs.getD i 0 ∧ zs.getD i 0 ≤ 9223372036854775807) ∧
          (zs.length = 0 ∨ ∃ b off, ra = some ⟨b, off, none⟩ ∧ b < w.heap.size ∧ ∀ j, j < zs.length → w.cell? ⟨b, off + j, none⟩ = some (.int .i64 (zs.getD j 0))) := by
        rcases HV.out.2 with h | ⟨b, off, h, hb, h2⟩
        · omega
        · obtain ⟨v, g1, ra, rc, g2, g3, g4⟩ := h2 k hlt
          exact ⟨b, off, h, hb, ra, rc, _, rfl, by rw [← g2]; exact (HP.out.bel.cell (p := ⟨b, off + k, none⟩) hb).trans g1, g3, g4⟩
      have EZ : Hid (zs = rows.getD k []) := ezs
      have hll : zs.length ≤ 131072 := by rw [ezs]; exact HLn.out k
      have HRW : Hid (zs.length = 0 ∨ ∃ b off, ra = some ⟨b, off, none⟩ ∧ b < w.heap.size ∧ ∀ j, j < zs.length → w.cell? ⟨b, off + j, none⟩ = some (.int .i64 (zs.getD j 0))) := hrow
      clear ezs hrow hrng
      obtain ⟨L, hL⟩ : ∃ L, L = zs.length := ⟨_, rfl⟩
      rw [← hL] at hcell hll HRW
      have EL : Hid (L = zs.length) := hL
      clear hL
      have hki : (k : Int) < (n : Int) := by omega
      go_wp2_with (at_make; refine wpList_make_full _ rfl (.tmp 22) (.tmp 22) 48 rfl wr.heap.size 50 j0 _ 4 Try.underlying48 ji jz0 jz1 .i64 .i64 _ _ L rfl rfl rfl rfl ?d2 ?d3 ?d4 ?_)
      case d2 => rw [jz2]; omega
      case d3 => unfold maxLen; omega
      case d4 => exact Nat.le_refl _
      intro w2 hown2 hgrow2
      have HG2 : Hid (w2.rowIs wr.heap.size 50 (L * 4) (fGs zs 0)) := (rowIs_made rfl hown2).congr (fun i _ => by unfold fGs; rw [if_neg (by omega)]; rfl)
      have hBs : w.heap.size ≤ wr.heap.size := HP.out.bel.size
      have HP2 : Hid (PlanIn w.heap.size w w2 w.heap.size n A rows k) := HP.out.frame hgrow2.size ⟨hgrow2.os, hgrow2.tape, hgrow2.output⟩ (fun j hj => hgrow2.block j hj (by simp)) hBs
      have hgl : w.heap.size < wr.heap.size := HP.out.top.lt
      clear hown2 hgrow2 hcell
      have HA : Hid (∀ r, r < k → A r < wr.heap.size) := fun r hr => (HP.out.row r hr).lt
      obtain ⟨gi, hgi⟩ : ∃ gi, gi = wr.heap.size := ⟨_, rfl⟩
      rw [← hgi] at HG2 hgl HA hBs ⊢
      clear hgi HP
      go_wp2
      go_loopw [7] (fun v7 wq => ∃ j : Nat, (j : Int) ≤ L ∧ v7 = .int .i64 j ∧ Hid (wq.rowIs gi 50 (L * 4) (fGs zs j)) ∧ Hid (PlanIn w.heap.size w wq w.heap.size n A rows k)) (fun v7 _ => L - (intOf v7).toNat)
      case atStart => exact ⟨0, by omega, rfl, HG2, HP2⟩
      case round =>
        obtain ⟨j, hj, rfl, HG, HQ⟩ := hrel
        clear HG2 HP2
        by_cases hjl : j < L
        · obtain ⟨b2, off2, rfl, hb2, hc2⟩ : ∃ b2 off2, ra = some ⟨b2, off2, none⟩ ∧ b2 < w.heap.size ∧ w.cell? ⟨b2, off2 + j, none⟩ = some (.int .i64 (zs.getD j 0)) := by
            rcases HRW.out with h | ⟨b2, off2, h, h1, h2⟩
            · omega
            · exact ⟨b2, off2, h, h1, h2 j hjl⟩
          obtain ⟨z, ez⟩ : ∃ z, z = zs.getD j 0 := ⟨_, rfl⟩
          have hcz : wr.cell? ⟨b2, off2 + j, none⟩ = some (.int .i64 z) := by rw [ez]; exact (HQ.out.bel.cell (p := ⟨b2, off2 + j, none⟩) hb2).trans hc2
          have hst := HG.out.cell (i := j * 4 + 3) (by omega)
          have hfr := HG.out.frozen (j * 4 + 3)
          have HNX : Hid ((wr.setCell ⟨gi, j * 4 + 3, none⟩ (.int .i64 z)).rowIs gi 50 (L * 4) (fGs zs (j + 1))) := (HG.out.set _ _).congr (fun i _ => by rw [ez]; exact fGs_step zs j i)
          have HQX : Hid (PlanIn w.heap.size w (wr.setCell ⟨gi, j * 4 + 3, none⟩ (.int .i64 z)) w.heap.size n A rows k) := HQ.out.setOther hgl HA.out hBs _
          generalize fGs zs j (j * 4 + 3) = old at hst
          clear ez hc2 HG HQ
          have hji : (j : Int) < (L : Int) := by omega
          go_wp2
          go_roundw
          case rel => exact ⟨j + 1, by omega, by go_num, HNX, HQX⟩
          case measure => simp [intOf]; omega
        · obtain rfl : j = L := by omega
          have htop := HQ.out.top.cell (i := k * 21 + 18) (by omega)
          have hfr := HQ.out.top.frozen (k * 21 + 18)
          generalize fG A rows k (k * 21 + 18) = old at htop
          have HNX : Hid (PlanIn w.heap.size w (wr.setCell ⟨w.heap.size, k * 21 + 18, none⟩ (.slice (some ⟨gi, 0, none⟩) j j)) w.heap.size n (fun r => if r = k then gi else A r) rows (k + 1)) := by
            have hE : j = (rows.getD k []).length := by rw [EL.out, EZ.out]
            have hg := HG.out
            rw [EZ.out, hE] at hg
            have := HQ.out.step (Nat.le_refl _) (by omega) hBs hg
            rw [← hE] at this
            exact this
          clear HG HQ
          go_wp2
          go_roundw
          case rel => exact ⟨k + 1, _, by omega, by go_num, HNX⟩
          case measure => simp [intOf]; omega
    · obtain rfl : k = n := by omega
      have HPA : Hid (∀ o, PlanIn w.heap.size w (wr.alloc o) w.heap.size k A rows k) := fun o => HP.out.frame (by simp) ⟨rfl, rfl, rfl⟩ (fun j hj => Below.heap_alloc _ _ _ hj) HP.out.bel.size
      go_wp2
      go_ret
      exact ⟨A, wr.heap.size, rfl, by simp, HPA.out _⟩

end Go.Proofs.Qxb6627829a
