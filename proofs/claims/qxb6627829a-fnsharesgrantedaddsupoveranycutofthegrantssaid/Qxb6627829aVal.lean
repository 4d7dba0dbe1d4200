/-
  Numbers of at most two words: their value, what normalising leaves; nat.add and nat.sub as whole functions.
-/
import Derived.Test.Qxb6627829aSub
namespace Go.Proofs.Qxb6627829a
open Go.RowKit

def val : List Int → Int
  | [] => 0
  | a :: r => a + 18446744073709551616 * val r
def Words (ws : List Int) : Prop := ∀ i, 0 ≤ ws.getD i 0 ∧ ws.getD i 0 ≤ 18446744073709551615
/-- At most two words, no leading zero. -/
def Norm2 (ws : List Int) : Prop := ws.length ≤ 2 ∧ Words ws ∧ (ws.length = 0 ∨ ¬ ws.getD (ws.length - 1) 0 = 0)

/-- The slice value '.slice a n c' shows the words ws in w. -/
def NatIs (w : World) (a : Option Addr) (n c : Nat) (ws : List Int) : Prop :=
  ws.length = n ∧ Norm2 ws ∧ n ≤ c ∧ ((a = none ∧ c = 0) ∨ ∃ g cur, a = some ⟨g, 0, none⟩ ∧ RowAt w g cur ∧ cur.length = c ∧ (c ≤ 1000 ∧ ¬ c = 2) ∧ cur.take n = ws)

theorem NatIs.z {w : World} {a : Option Addr} {n c : Nat} {ws : List Int} (h : NatIs w a n c ws) : ZIs w a c := by
  rcases h.2.2.2 with h | ⟨g, cur, h1, h2, h3, h4, _⟩
  · exact .inl h
  · exact .inr ⟨g, cur, h1, h2, h3, h4⟩
theorem getD_take' (cur : List Int) (n i : Nat) (h : i < n) : (cur.take n).getD i 0 = cur.getD i 0 := by
  simp [List.getD, h]
/-- Its cells, where it has any. -/
theorem NatIs.row {w : World} {a : Option Addr} {n c : Nat} {ws : List Int} (h : NatIs w a n c ws) (hn : 0 < n) :
    ∃ g, a = some ⟨g, 0, none⟩ ∧ (∃ xc, w.heap[g]? = some (.cells xc 38 (0, 0))) ∧ ∀ i, i < n → w.cell? ⟨g, i, none⟩ = some (.int .u64 (ws.getD i 0)) := by
  obtain ⟨h1, _, h3, h | ⟨g, cur, e1, e2, e3, e4, e5⟩⟩ := h
  · omega
  · refine ⟨g, e1, ⟨_, e2⟩, fun i hi => ?_⟩
    rw [e2.cell i (by omega), ← e5, getD_take' _ _ _ hi]

theorem val_one (a : Int) : val [a] = a := by simp [val]
theorem val_two (a b : Int) : val [a, b] = a + 18446744073709551616 * b := by simp [val]
theorem val_three (a b c : Int) : val [a, b, c] = a + 18446744073709551616 * b + 340282366920938463463374607431768211456 * c := by simp [val]; omega

/-- What a number of at most two words looks like. -/
theorem norm2_cases {ws : List Int} (h : Norm2 ws) : ws = [] ∨ (∃ a, ws = [a] ∧ 0 < a ∧ a ≤ 18446744073709551615) ∨ ∃ a b, ws = [a, b] ∧ 0 ≤ a ∧ a ≤ 18446744073709551615 ∧ 0 < b ∧ b ≤ 18446744073709551615 := by
  obtain ⟨h1, h2, h3⟩ := h
  match ws, h1, h2, h3 with
  | [], _, _, _ => exact .inl rfl
  | [a], _, h2, h3 =>
    have := h2 0
    simp at this h3
    exact .inr (.inl ⟨a, rfl, by omega, this.2⟩)
  | [a, b], _, h2, h3 =>
    have h0 := h2 0
    have h1 := h2 1
    simp at h0 h1 h3
    exact .inr (.inr ⟨a, b, rfl, h0.1, h0.2, by omega, h1.2⟩)

theorem val_nonneg {ws : List Int} (h : Norm2 ws) : 0 ≤ val ws := by
  rcases norm2_cases h with rfl | ⟨a, rfl, h1, h2⟩ | ⟨a, b, rfl, h1, h2, h3, h4⟩
  · exact Int.le_refl 0
  · rw [val_one]; omega
  · rw [val_two]; omega

/-- Normalising leaves the value. -/
theorem norm_keeps {cur ws : List Int} {k j : Nat} (hn : IsNorm cur k j) (ht : cur.take k = ws) (hk : ws.length = k) (hw : Words ws) (h3 : k ≤ 3) (h2 : k = 3 → ws.getD 2 0 = 0) : Norm2 (cur.take j) ∧ val (cur.take j) = val ws ∧ (cur.take j).length = j := by
  obtain ⟨hj, hz, ho⟩ := hn
  have hget : ∀ i, i < k → cur.getD i 0 = ws.getD i 0 := fun i hi => by rw [← ht, getD_take' _ _ _ hi]
  have hcl : k ≤ cur.length := by rw [← ht] at hk; simp at hk; omega
  have hlen : (cur.take j).length = j := by simp; omega
  have htj : cur.take j = ws.take j := by rw [← ht, List.take_take, Nat.min_eq_left hj]
  have hj2 : j ≤ 2 := by
    rcases ho with ho | ho
    · omega
    · by_cases h : j = 3
      · subst h
        exfalso
        apply ho
        rw [hget 2 (by omega)]
        exact h2 (by omega)
      · omega
  have hw' : Words (cur.take j) := fun i => by
    by_cases hi : i < j
    · rw [getD_take' _ _ _ hi, hget i (by omega)]; exact hw i
    · have : (cur.take j).getD i 0 = 0 := by simp [List.getD, List.getElem?_take, hi]
      omega
  refine ⟨⟨by omega, hw', ?_⟩, ?_, hlen⟩
  · rw [hlen]
    rcases ho with ho | ho
    · exact .inl ho
    · by_cases h0 : j = 0
      · exact .inl h0
      · right; rw [getD_take' _ _ _ (by omega)]; exact ho
  · rw [htj]
    have hz' : ∀ i, j ≤ i → i < k → ws.getD i 0 = 0 := fun i h1 h2 => by rw [← hget i h2]; exact hz i h1 h2
    match ws, hk with
    | [], _ => simp
    | [a], hk =>
      match j, hj2 with
      | 0, _ => have := hz' 0 (by omega) (by simp at hk; omega); simp at this; simp [val, this]
      | 1, _ => rfl
      | 2, _ => rfl
    | [a, b], hk =>
      match j, hj2 with
      | 0, _ => have := hz' 0 (by omega) (by simp at hk; omega); have h1 := hz' 1 (by omega) (by simp at hk; omega); simp at this h1; simp [val, this, h1]
      | 1, _ => have h1 := hz' 1 (by omega) (by simp at hk; omega); simp at h1; simp [val, h1]
      | 2, _ => rfl
    | [a, b, c], hk =>
      match j, hj2 with
      | 0, _ => have := hz' 0 (by omega) (by simp at hk; omega); have h1 := hz' 1 (by omega) (by simp at hk; omega); have h2 := hz' 2 (by omega) (by simp at hk; omega); simp at this h1 h2; simp [val, this, h1, h2]
      | 1, _ => have h1 := hz' 1 (by omega) (by simp at hk; omega); have h2 := hz' 2 (by omega) (by simp at hk; omega); simp at h1 h2; simp [val, h1, h2]
      | 2, _ => have h2 := hz' 2 (by omega) (by simp at hk; omega); simp at h2; simp [val, h2]
    | _ :: _ :: _ :: _ :: _, hk => simp at hk; omega

/-- What nat.add and nat.sub hand back. -/
def NatRes (a : Option Addr) (v : Int) (w : World) (e : Ending) (w' : World) : Prop :=
  ∃ a' k c' zs, e = .returned (.slice a' k c') ∧ NatIs w' a' k c' zs ∧ val zs = v ∧ w.grownBy w' (zrow a) ∧ (a' = a ∨ zrow a' = some w.heap.size)

theorem res_of {a : Option Addr} {c K : Nat} {w w' : World} {e : Ending} {ws : List Int} {v : Int} (hz : ZIs w a c) (h : NatOut a (fun cur k => IsNorm cur K k ∧ cur.take K = ws) w e w') (hK : ws.length = K) (hw : Words ws) (h3 : K ≤ 3) (h2 : K = 3 → ws.getD 2 0 = 0) (hv : val ws = v) : NatRes a v w e w' := by
  obtain ⟨g, k, c', cur, rfl, hr, hl, hk, h1000, hg, hgr, hN, ht⟩ := h
  obtain ⟨n1, n2, n3⟩ := norm_keeps hN ht hK hw h3 h2
  refine ⟨some ⟨g, 0, none⟩, k, c', cur.take k, rfl, ⟨n3, n1, hk, .inr ⟨g, cur, rfl, hr, hl, h1000, rfl⟩⟩, n2.trans hv, hgr, ?_⟩
  rcases hg with hg | hg
  · left
    rcases hz with ⟨rfl, _⟩ | ⟨g', _, rfl, _⟩
    · simp [zrow] at hg
    · simp [zrow] at hg; rw [hg]
  · right; rw [hg]; rfl
theorem res_set {a : Option Addr} {c : Nat} {w w' : World} {e : Ending} {ws : List Int} {n : Nat} (hz : ZIs w a c) (h : NatOut a (fun cur k => k = n ∧ cur.take n = ws) w e w') (hn : ws.length = n) (h2 : Norm2 ws) : NatRes a (val ws) w e w' := by
  obtain ⟨g, k, c', cur, rfl, hr, hl, hk, h1000, hg, hgr, rfl, ht⟩ := h
  refine ⟨some ⟨g, 0, none⟩, k, c', ws, rfl, ⟨hn, h2, hk, .inr ⟨g, cur, rfl, hr, hl, h1000, ht⟩⟩, rfl, hgr, ?_⟩
  rcases hg with hg | hg
  · left
    rcases hz with ⟨rfl, _⟩ | ⟨g', _, rfl, _⟩
    · simp [zrow] at hg
    · simp [zrow] at hg; rw [hg]
  · right; rw [hg]; rfl

end Go.Proofs.Qxb6627829a
