/-
  Views of slices of strings in blocks below a bound, and what the steps of the walks do to them.
-/
import Derived.Test.Qxb6627756aSize
import Derived.Laws.CopyOwn
namespace Go.Proofs.Qxb6627756a
open Go.RowKit

theorem info9 : (Try.prog.info? 9).map (fun i => (i.zero, i.size, i.bytes)) = some (some (.string ByteArray.empty), 1, 16) := by kernel_rfl

/-- A view whose block lies below B. -/
def ViewB (B : Nat) (w : World) (a : Option Addr) (n : Nat) (ss : List ByteArray) : Prop :=
  ss.length = n ∧ (n = 0 ∨ ∃ b off, a = some ⟨b, off, none⟩ ∧ b < B ∧ ∀ i, i < n → w.cell? ⟨b, off + i, none⟩ = some (.string (ss.getD i ByteArray.empty)))

theorem ViewB.view {B : Nat} {w : World} {a : Option Addr} {n : Nat} {ss : List ByteArray} (h : ViewB B w a n ss) : View w a n ss := by
  obtain ⟨h1, h2⟩ := h
  refine ⟨h1, ?_⟩
  rcases h2 with h2 | ⟨b, off, h2, _, h3⟩
  · exact .inl h2
  · exact .inr ⟨b, off, h2, h3⟩

theorem ViewB.below {B B' : Nat} {w w' : World} {a : Option Addr} {n : Nat} {ss : List ByteArray} (h : ViewB B w a n ss) (hb : Below B' w w') (hB : B ≤ B') : ViewB B w' a n ss := by
  obtain ⟨h1, h2⟩ := h
  refine ⟨h1, ?_⟩
  rcases h2 with h2 | ⟨b, off, h2, hlt, h3⟩
  · exact .inl h2
  · exact .inr ⟨b, off, h2, hlt, fun i hi => (hb.cell (p := ⟨b, off + i, none⟩) (by simp; omega)).trans (h3 i hi)⟩

theorem ViewB.mono {B B' : Nat} {w : World} {a : Option Addr} {n : Nat} {ss : List ByteArray} (h : ViewB B w a n ss) (hB : B ≤ B') : ViewB B' w a n ss := by
  obtain ⟨h1, h2⟩ := h
  refine ⟨h1, ?_⟩
  rcases h2 with h2 | ⟨b, off, h2, hlt, h3⟩
  · exact .inl h2
  · exact .inr ⟨b, off, h2, by omega, h3⟩

theorem ViewB.cells {B : Nat} {w : World} {a : Option Addr} {n : Nat} {ss : List ByteArray} (h : ViewB B w a n ss) :
    ∀ ad, a = some ad → ∀ j u, (ss.map Value.string)[j]? = some u → w.cell? (ad.add j) = some u := by
  obtain ⟨h1, h2⟩ := h
  intro ad ha j u hu
  have hj : j < ss.length := by
    have := (List.getElem?_eq_some_iff.1 hu).1
    simpa using this
  rcases h2 with h2 | ⟨b, off, h2, _, h3⟩
  · omega
  · rw [h2] at ha
    obtain rfl := Option.some.inj ha
    rw [Addr.add_lit, h3 j (by omega)]
    simp [hj] at hu
    simp [List.getD, hj, hu]

theorem ViewB.src {B : Nat} {w : World} {a : Option Addr} {n : Nat} {ss : List ByteArray} (h : ViewB B w a n ss) (h0 : 0 < (ss.map Value.string).length) :
    ∃ ad, a = some ad ∧ ∀ j u, (ss.map Value.string)[j]? = some u → w.cell? (ad.add j) = some u := by
  have hc := h.cells
  obtain ⟨h1, h2⟩ := h
  rcases h2 with h2 | ⟨b, off, h2, _, h3⟩
  · simp at h0; omega
  · exact ⟨_, h2, hc _ h2⟩

theorem strs_oneCell (ss : List ByteArray) : ∀ u ∈ ss.map Value.string, u.oneCell' = true := by
  intro u hu
  obtain ⟨_, _, rfl⟩ := List.mem_map.1 hu
  rfl

/-- The row that 'make([]string, n)' laid. -/
theorem made_row {w : World} {base g n : Nat} {xs : List Value} (h : w.ownsRow base 9 1 (.slice (some ⟨g, 0, none⟩) n n) n xs) :
    ∃ cur : List Value, cur.length = n ∧ w.heap[g]? = some (.cells cur.toArray 9 (0, 0)) := by
  obtain ⟨_, h2⟩ := h
  rcases h2 with ⟨h2, _⟩ | ⟨g', cap, cur, hv, _, hh, _, _, hs, _⟩
  · cases h2
  · simp at hv
    obtain ⟨rfl, rfl⟩ := hv
    exact ⟨cur.toList, by simpa using hs, by simpa using hh⟩

/-- The view of a row written whole. -/
theorem view_row {w : World} {g n B : Nat} {ss : List ByteArray} {cur : List Value} (hl : cur.length = n) (hs : ss.length = n) (hB : g < B) (h : w.heap[g]? = some (.cells (splice cur 0 (ss.map Value.string)).toArray 9 (0, 0))) :
    ViewB B w (some ⟨g, 0, none⟩) n ss := by
  have e : splice cur 0 (ss.map Value.string) = ss.map Value.string := by
    have hd : cur.drop (0 + (ss.map Value.string).length) = [] := List.drop_eq_nil_of_le (by simp; omega)
    simp only [splice, hd]; simp
  rw [e] at h
  refine ⟨hs, .inr ⟨g, 0, rfl, hB, fun i hi => ?_⟩⟩
  simp [World.cell?, h, List.getD, show i < ss.length by omega]

/-- The view of a row that the call owns. -/
theorem view_own {w : World} {base g n cap B : Nat} {ss : List ByteArray} (hs : ss.length = n) (hB : g < B) (h : w.ownsRow base 9 1 (.slice (some ⟨g, 0, none⟩) n cap) n (ss.map Value.string)) :
    ViewB B w (some ⟨g, 0, none⟩) n ss := by
  refine ⟨hs, .inr ⟨g, 0, rfl, hB, fun i hi => ?_⟩⟩
  have := h.cellAt i (by omega)
  rw [Nat.zero_add, this]
  simp [List.getD, show i < ss.length by omega]

end Go.Proofs.Qxb6627756a
