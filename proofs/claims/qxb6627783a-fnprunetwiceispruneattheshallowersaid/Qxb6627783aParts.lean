/-
  The copy of the data that both laws make, and what came in as the walks want it.
-/
import Derived.Test.Qxb6627783aPrune
import Derived.Laws.CopyOwn
import Derived.OpenShut
namespace Go.Proofs.Qxb6627783a
open Go.RowKit

/-- The row that 'make([]byte, n)' laid. -/
theorem made_row {w : World} {base g n : Nat} {xs : List Value} (h : w.ownsRow base 5 1 (.slice (some ⟨g, 0, none⟩) n n) n xs) :
    ∃ cur : List Value, cur.length = n ∧ w.heap[g]? = some (.cells cur.toArray 5 (0, 0)) := by
  obtain ⟨_, h2⟩ := h
  rcases h2 with ⟨h2, _⟩ | ⟨g', cap, cur, hv, _, hh, _, _, hs, _⟩
  · cases h2
  · simp at hv
    obtain ⟨rfl, rfl⟩ := hv
    exact ⟨cur.toList, by simpa using hs, by simpa using hh⟩

/-- The view of a row written whole. -/
theorem view_row {w : World} {g n B : Nat} {zs : List Int} {cur : List Value} (hl : cur.length = n) (hs : zs.length = n) (hr : ∀ i, 0 ≤ zs.getD i 0 ∧ zs.getD i 0 ≤ 255) (hB : g < B)
    (h : w.heap[g]? = some (.cells (splice cur 0 (byteCells zs)).toArray 5 (0, 0))) : ViewB B w (some ⟨g, 0, none⟩) n zs := by
  have e : splice cur 0 (byteCells zs) = byteCells zs := by
    have hd : cur.drop (0 + (byteCells zs).length) = [] := List.drop_eq_nil_of_le (by simp [byteCells]; omega)
    simp only [splice, hd]; simp
  rw [e] at h
  refine ⟨hs, hr, .inr ⟨g, 0, rfl, hB, fun i hi => ?_⟩⟩
  simp [World.cell?, h, byteCells, List.getD, show i < zs.length by omega]

theorem ViewB.cells {B : Nat} {w : World} {a : Option Addr} {n : Nat} {zs : List Int} (h : ViewB B w a n zs) :
    ∀ ad, a = some ad → ∀ j u, (byteCells zs)[j]? = some u → w.cell? (ad.add j) = some u := by
  obtain ⟨h1, _, h2⟩ := h
  intro ad ha j u hu
  have hj : j < zs.length := by
    have := (List.getElem?_eq_some_iff.1 hu).1
    simpa [byteCells] using this
  rcases h2 with h2 | ⟨b, off, h2, _, h3⟩
  · omega
  · rw [h2] at ha
    obtain rfl := Option.some.inj ha
    rw [Addr.add_lit, h3 j (by omega)]
    simp [byteCells, hj] at hu
    simp [List.getD, hj, hu]

/-- A slice of bytes that came in. -/
def IsRow (k : IntKind) (w : World) (a : Option Addr) (len cap : Nat) (zs : List Int) : Prop :=
  (a = none ∧ len = 0 ∧ cap = 0 ∧ zs = []) ∨
  ∃ x, a = some x ∧ len ≤ cap ∧ cap ≤ maxLen ∧ zs.length = cap ∧ (∀ i, i < zs.length → w.cell? (x.add i) = some (.int k (zs.getD i 0))) ∧ ∀ n ∈ zs, (Lit.int k n).wf = true

theorem IsRow.view {w : World} {a : Option Addr} {len cap : Nat} {zs : List Int} (h : IsRow .u8 w a len cap zs) :
    len ≤ 9223372036854775807 ∧ ViewB w.heap.size w a len (zs.take len) ∧ (a = none → len = 0 ∧ cap = 0) := by
  rcases h with ⟨rfl, rfl, rfl, rfl⟩ | ⟨x, rfl, hl, hm, hz, hcell, hwz⟩
  · exact ⟨by omega, ⟨rfl, fun i => by simp, .inl rfl⟩, fun _ => ⟨rfl, rfl⟩⟩
  · unfold maxLen at hm
    refine ⟨by omega, ⟨by simp; omega, fun i => ?_, ?_⟩, fun h => by cases h⟩
    · by_cases hi : i < (zs.take len).length
      · have hmem : (zs.take len).getD i 0 ∈ zs.take len := by
          have : (zs.take len).getD i 0 = (zs.take len)[i] := by simp only [List.getD, List.getElem?_eq_getElem hi, Option.getD_some]
          rw [this]; exact List.getElem_mem hi
        have := bounds_u8 (hwz _ (List.mem_of_mem_take hmem))
        omega
      · have : (zs.take len).getD i 0 = 0 := by simp only [List.getD, List.getElem?_eq_none (Nat.le_of_not_lt hi), Option.getD_none]
        omega
    · by_cases h0 : len = 0
      · exact .inl h0
      · obtain ⟨b, off, spot⟩ := x
        have h1 := hcell 0 (by omega)
        have hspot : spot = none := by simpa [Addr.add] using World.cell?_spot h1
        subst hspot
        have hb := World.block_lt_of_cell? w _ h1
        refine .inr ⟨b, off, rfl, by simpa [Addr.add] using hb, fun i hi => ?_⟩
        have := hcell i (by omega)
        rw [Addr.add_lit] at this
        rw [this]
        simp [List.getD, hi]

end Go.Proofs.Qxb6627783a
