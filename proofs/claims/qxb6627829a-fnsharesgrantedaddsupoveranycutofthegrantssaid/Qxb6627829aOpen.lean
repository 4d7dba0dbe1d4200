/-
  The shares that came in, opened: a slice of slices of int64.
-/
import Derived.Test.Qxb6627829aPlan
import Derived.ProofKit
import Derived.OpenShut
import Derived.ChangeOld
import Derived.Below
import Derived.Deep.Matrix
namespace Go.Proofs.Qxb6627829a
open Go.ChangeShapes Go.WideShapes Go.ChangeAt Go.RowKit

theorem own : ownKnob Try.prog.godebug = none := by kernel_rfl
theorem laidOut : laidOutB Try.prog = true := by kernel_rfl

theorem opened {H : Type} {enc : TypeId × Value → H} {W : World} {a : Option Addr} {len cap : Nat} {d : DataW H} {p : List MemPlace} (h : DataW.Trod enc Try.prog W 0 (fun _ => true) true 22 (.slice a len cap) d p) :
    ∃ rows, MV W.heap.size W a len rows ∧ len ≤ 9223372036854775807 ∧ (∀ i, i < len → (rows.getD i []).length ≤ 9223372036854775807) ∧ (∀ i j, -9223372036854775808 ≤ (rows.getD i []).getD j 0 ∧ (rows.getD i []).getD j 0 ≤ 9223372036854775807) ∧ (a = none → len = 0 ∧ cap = 0) := by
  obtain ⟨fuel, hf⟩ := h
  rcases Deep.open_int_rows Try.underlying22 Try.underlying24 Try.underlying2 (by kernel_rfl) (by kernel_rfl) hf with ⟨hcs, _⟩ | ⟨x, l, c, A, L, C, Z, hcs, _, hl, hm, _, hr⟩
  · simp [Value.cells] at hcs
    obtain ⟨rfl, rfl, rfl⟩ := hcs
    exact ⟨[], ⟨rfl, .inl rfl⟩, by omega, fun i hi => by omega, fun i j => by simp, fun _ => ⟨rfl, rfl⟩⟩
  · simp [Value.cells] at hcs
    obtain ⟨rfl, rfl, rfl⟩ := hcs
    unfold maxLen at hm hr
    have hg : ∀ i, i < len → ((List.range len).map fun r => (Z r).take (L r)).getD i [] = (Z i).take (L i) := fun i hi => by simp [List.getD, hi]
    have hg' : ∀ i, ¬ i < len → ((List.range len).map fun r => (Z r).take (L r)).getD i [] = [] := fun i hi => by rw [List.getD, List.getElem?_eq_none (by simp; omega)]; rfl
    have hrange : ∀ i, i < len → ∀ j, -9223372036854775808 ≤ ((Z i).take (L i)).getD j 0 ∧ ((Z i).take (L i)).getD j 0 ≤ 9223372036854775807 := fun i hi j => by
      obtain ⟨_, _, _, _, h5, _⟩ := hr i (by omega)
      by_cases hj : j < ((Z i).take (L i)).length
      · have hmem : ((Z i).take (L i)).getD j 0 ∈ (Z i).take (L i) := by
          rw [show ((Z i).take (L i)).getD j 0 = ((Z i).take (L i))[j] by simp only [List.getD, List.getElem?_eq_getElem hj, Option.getD_some]]
          exact List.getElem_mem hj
        exact bounds_i64 (h5 _ (List.mem_of_mem_take hmem))
      · rw [List.getD, List.getElem?_eq_none (by omega)]; simp
    refine ⟨(List.range len).map fun r => (Z r).take (L r), ⟨by simp, ?_⟩, by omega, fun i hi => ?_, fun i j => ?_, fun h => by cases h⟩
    · by_cases h0 : len = 0
      · exact .inl h0
      · obtain ⟨b, off, spot⟩ := x
        have h1 := (hr 0 (by omega)).1
        have hspot : spot = none := by simpa [Addr.add] using World.cell?_spot h1
        subst hspot
        have hb := World.block_lt_of_cell? W _ h1
        refine .inr ⟨b, off, rfl, by simpa [Addr.add] using hb, fun i hi => ?_⟩
        obtain ⟨g1, g2, g3, g4, g5, g6, g7⟩ := hr i (by omega)
        rw [Addr.add_lit] at g1
        have hlen : ((Z i).take (L i)).length = L i := by simp; omega
        refine ⟨_, g1, A i, C i, ?_, ?_, ?_⟩
        · rw [hg i hi, hlen]
        · rw [hg i hi]; exact hrange i hi
        · rw [hg i hi, hlen]
          by_cases hz : L i = 0
          · exact .inl hz
          · cases hA : A i with
            | none => have := g6 hA; omega
            | some a' =>
              obtain ⟨b', off', spot'⟩ := a'
              obtain ⟨_, g8⟩ := g7 _ hA
              have h2 := g8 0 (by omega)
              have hspot' : spot' = none := by simpa [Addr.add] using World.cell?_spot h2
              subst hspot'
              have hb' := World.block_lt_of_cell? W _ h2
              refine .inr ⟨b', off', rfl, by simpa [Addr.add] using hb', fun j hj => ?_⟩
              have := g8 j (by omega)
              rw [Addr.add_lit] at this
              rw [this]
              simp [List.getD, hj]
    · rw [hg i hi]
      obtain ⟨_, g2, g3, _⟩ := hr i (by omega)
      simp; omega
    · by_cases hi : i < len
      · rw [hg i hi]; exact hrange i hi j
      · rw [hg' i hi]; simp

end Go.Proofs.Qxb6627829a
