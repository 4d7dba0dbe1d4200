/-
  The plan's memory read as grants; the size guards; an empty plan.
-/
import Derived.Test.Qxb6627829aGranted
namespace Go.Proofs.Qxb6627829a
open Go.RowKit

theorem zGrant_at (i j : Nat) : zGrant (i * 21 + j) = zGrant j := by
  unfold zGrant
  rw [show (i * 21 + j) % 21 = j % 21 by omega]
theorem zGrantee_at (i j : Nat) : zGrantee (i * 4 + j) = zGrantee j := by
  unfold zGrantee
  rw [show (i * 4 + j) % 4 = j % 4 by omega]
theorem gcells_at (A : Nat → Nat) (rows : List (List Int)) (N i j : Nat) (hi : i < N) (v : Value) (hv : (gcells (A i) (rows.getD i []).length)[j]? = some v) : j < 21 ∧ fG A rows N (i * 21 + j) = v := by
  have hj : j < 21 := by
    have := (List.getElem?_eq_some_iff.1 hv).1
    simpa [gcells] using this
  refine ⟨hj, ?_⟩
  unfold fG
  by_cases h : j = 18
  · subst h
    rw [if_pos ⟨by omega, by omega⟩, show (i * 21 + 18) / 21 = i by omega]
    exact Option.some.inj hv
  · rw [if_neg (by omega), zGrant_at i j]
    match j, hj, h, hv with
    | 0, _, _, hv => exact Option.some.inj hv
    | 1, _, _, hv => exact Option.some.inj hv
    | 2, _, _, hv => exact Option.some.inj hv
    | 3, _, _, hv => exact Option.some.inj hv
    | 4, _, _, hv => exact Option.some.inj hv
    | 5, _, _, hv => exact Option.some.inj hv
    | 6, _, _, hv => exact Option.some.inj hv
    | 7, _, _, hv => exact Option.some.inj hv
    | 8, _, _, hv => exact Option.some.inj hv
    | 9, _, _, hv => exact Option.some.inj hv
    | 10, _, _, hv => exact Option.some.inj hv
    | 11, _, _, hv => exact Option.some.inj hv
    | 12, _, _, hv => exact Option.some.inj hv
    | 13, _, _, hv => exact Option.some.inj hv
    | 14, _, _, hv => exact Option.some.inj hv
    | 15, _, _, hv => exact Option.some.inj hv
    | 16, _, _, hv => exact Option.some.inj hv
    | 17, _, _, hv => exact Option.some.inj hv
    | 18, _, h, _ => exact absurd rfl h
    | 19, _, _, hv => exact Option.some.inj hv
    | 20, _, _, hv => exact Option.some.inj hv
    | _ + 21, hj, _, _ => omega

theorem entry_at (zs : List Int) (i j : Nat) (hi : i < zs.length) (v : Value) (hv : ([.string ByteArray.empty, .string ByteArray.empty, .int .i64 0, .int .i64 (zs.getD i 0)] : List Value)[j]? = some v) : j < 4 ∧ fGs zs zs.length (i * 4 + j) = v := by
  have hj : j < 4 := by
    have := (List.getElem?_eq_some_iff.1 hv).1
    simpa using this
  refine ⟨hj, ?_⟩
  unfold fGs
  match j, hj, hv with
  | 0, _, hv => rw [if_neg (by omega), zGrantee_at i 0]; exact Option.some.inj hv
  | 1, _, hv => rw [if_neg (by omega), zGrantee_at i 1]; exact Option.some.inj hv
  | 2, _, hv => rw [if_neg (by omega), zGrantee_at i 2]; exact Option.some.inj hv
  | 3, _, hv => rw [if_pos ⟨by omega, by omega⟩, show (i * 4 + 3) / 4 = i by omega]; exact Option.some.inj hv
  | _ + 4, hj, _ => omega

theorem getD_part {α : Type} (rows : List α) (o m i : Nat) (d : α) (hi : i < m) : ((rows.drop o).take m).getD i d = rows.getD (o + i) d := by
  simp [List.getD, hi]

theorem PlanIn.view {B : Nat} {w0 w : World} {gb N o m : Nat} {A : Nat → Nat} {rows : List (List Int)} (h : PlanIn B w0 w gb N A rows N) (hN : rows.length = N) (ho : o + m ≤ N) (hs : Small rows) : GV w.heap.size w gb (o * 21) m ((rows.drop o).take m) := by
  refine ⟨by simp; omega, h.top.lt, fun i hi => ⟨A (o + i), (h.row (o + i) (by omega)).lt, fun j v hv => ?_, fun j => ?_, fun j hj j2 v hv => ?_⟩⟩
  · rw [getD_part _ _ _ _ _ hi] at hv
    obtain ⟨h1, h2⟩ := gcells_at A rows N (o + i) j (by omega) v hv
    rw [show o * 21 + i * 21 + j = (o + i) * 21 + j by omega, h.top.cell (by omega), h2]
  · rw [getD_part _ _ _ _ _ hi]; exact hs.2.2 (o + i) j
  · rw [getD_part _ _ _ _ _ hi] at hj hv
    obtain ⟨h1, h2⟩ := entry_at (rows.getD (o + i) []) j j2 hj v hv
    rw [(h.row (o + i) (by omega)).cell (by omega), h2]
theorem Small.part {rows : List (List Int)} (h : Small rows) (o m : Nat) : Small ((rows.drop o).take m) := by
  obtain ⟨h1, h2, h3⟩ := h
  have hg : ∀ i, ((rows.drop o).take m).getD i [] = rows.getD (o + i) [] ∨ ((rows.drop o).take m).getD i [] = [] := fun i => by
    by_cases hi : i < m
    · exact .inl (getD_part _ _ _ _ _ hi)
    · right; rw [List.getD, List.getElem?_eq_none (by simp; omega)]; rfl
  refine ⟨by simp; omega, fun i => ?_, fun i j => ?_⟩
  · rcases hg i with e | e <;> rw [e]
    · exact h2 _
    · simp
  · rcases hg i with e | e <;> rw [e]
    · exact h3 _ _
    · simp

set_option maxHeartbeats 800000 in
theorem granted_empty (pp : Nat) (ga : Option Addr) (c : Nat) (w : World) (hp : w.cell? ⟨pp, 6, none⟩ = some (.slice ga 0 c)) :
    Calls Try.prog 7 #[.pointer (some ⟨pp, 0, none⟩)] w fun e w' => ∃ p, e = .returned (.pointer (some ⟨p, 0, none⟩)) ∧ BigAt w.heap.size w' p 0 ∧ Below w.heap.size w w' := by
  have hpl : pp < w.heap.size := World.block_lt_of_cell? w _ hp
  have HB0 : Hid (BigAt w.heap.size (w.alloc (.cells #[.bool false, .slice none 0 0] 68)) w.heap.size 0) :=
    ⟨false, none, 0, 0, [], heap_alloc_new w _, ⟨rfl, ⟨by simp, fun i => by simp, .inl rfl⟩, Nat.le_refl _, .inl ⟨rfl, rfl⟩⟩, rfl, fun h => (by cases h), Nat.le_refl _, fun g hg => by simp [zrow] at hg⟩
  go_enter Try.func7, Try.ntmps7
  go_wp2
  refine wp_loop_rounds 1 ?_
  rw [rounds_succ]
  go_wp2
  go_ret
  exact ⟨w.heap.size, rfl, HB0.out, (Below.refl _ _).alloc (Nat.le_refl _) _⟩

/-! ### the size guards -/
def SizeOK (n : Nat) (rows : List (List Int)) : Prop := n ≤ 1048576 ∧ ∀ i, i < n → (rows.getD i []).length ≤ 1048576
def BoolIf (p : Prop) (e : Ending) : Prop := ∃ r, e = .returned (.bool r) ∧ (r = true → p)
theorem BoolIf.no {p : Prop} : BoolIf p (.returned (.bool false)) := ⟨false, rfl, fun h => by cases h⟩
theorem BoolIf.yes {p : Prop} (h : p) : BoolIf p (.returned (.bool true)) := ⟨true, rfl, fun _ => h⟩

set_option maxHeartbeats 1600000 in
theorem bytes5 (a : Option Addr) (n c : Nat) (rows : List (List Int)) (w : World) {B : Nat} (hv : MV B w a n rows) (hn : n ≤ 9223372036854775807) (hl : ∀ i, i < n → (rows.getD i []).length ≤ 9223372036854775807) :
    Calls Try.prog 5 #[.slice a n c] w fun e w' => BoolIf (SizeOK n rows) e ∧ w' = w := by
  have HV : Hid (MV B w a n rows) := hv
  have HL : Hid (∀ i, i < n → (rows.getD i []).length ≤ 9223372036854775807) := hl
  clear hv hl
  by_cases hs : n ≤ 1048576
  · go_enter Try.func5, Try.ntmps5
    go_wp2
    go_loop [3, 4] (fun v3 v4 => ∃ (k : Nat) (T : Int), (k : Int) ≤ n ∧ 0 ≤ T ∧ T ≤ 1048576 ∧ v3 = .int .i64 T ∧ v4 = .int .i64 k ∧ Hid (∀ i, i < k → (rows.getD i []).length ≤ 1048576)) (fun _ v4 => n - (intOf v4).toNat)
    case atStart => exact ⟨0, n, by omega, by omega, by omega, rfl, rfl, fun i hi => by omega⟩
    case round =>
      obtain ⟨k, T, hk, hT0, hT1, rfl, rfl, HK⟩ := hrel
      by_cases hlt : k < n
      · obtain ⟨b, off, rfl, ra, rc, N, eN, hcell⟩ : ∃ b off, a = some ⟨b, off, none⟩ ∧ ∃ ra rc N, N = (rows.getD k []).length ∧ w.cell? ⟨b, off + k, none⟩ = some (.slice ra N rc) := by
          rcases HV.out.2 with h | ⟨b, off, h, hb, h2⟩
          · omega
          · obtain ⟨v, g1, ra, rc, g2, g3, g4⟩ := h2 k hlt
            exact ⟨b, off, h, ra, rc, _, rfl, by rw [← g2]; exact g1⟩
        have hN : N ≤ 9223372036854775807 := by rw [eN]; exact HL.out k hlt
        have EN : Hid (N = (rows.getD k []).length) := eN
        clear eN
        have hki : (k : Int) < (n : Int) := by omega
        by_cases hN1 : N ≤ 1048576
        · have HK' : Hid (∀ i, i < k + 1 → (rows.getD i []).length ≤ 1048576) := fun i hi => by
            by_cases e : i = k
            · rw [e, ← EN.out]; exact hN1
            · exact HK.out i (by omega)
          go_wp2
          · go_ret
            exact ⟨BoolIf.no, rfl⟩
          · go_round
            case rel => exact ⟨k + 1, T + N, by omega, by omega, by omega, by go_num, by go_num, HK'⟩
            case measure => simp [intOf]; omega
        · go_wp2
          go_ret
          exact ⟨BoolIf.no, rfl⟩
      · obtain rfl : k = n := by omega
        go_wp2
        go_ret
        exact ⟨BoolIf.yes ⟨hs, HK.out⟩, rfl⟩
  · go_enter Try.func5, Try.ntmps5
    go_wp2
    go_ret
    exact ⟨BoolIf.no, rfl⟩

set_option maxHeartbeats 1600000 in
theorem bytes12 (a : Option Addr) (n c : Nat) (q : Int) (rows : List (List Int)) (w : World) {B : Nat} (hv : MV B w a n rows) (hn : n ≤ 9223372036854775807) (hl : ∀ i, i < n → (rows.getD i []).length ≤ 9223372036854775807) :
    Calls Try.prog 12 #[.slice a n c, .int .i64 q] w fun e w' => BoolIf (SizeOK n rows) e ∧ w' = w := by
  have HV : Hid (MV B w a n rows) := hv
  have HL : Hid (∀ i, i < n → (rows.getD i []).length ≤ 9223372036854775807) := hl
  clear hv hl
  by_cases hs : n ≤ 1048576
  · go_enter Try.func12, Try.ntmps12
    go_wp2
    go_loop [5, 6] (fun v3 v4 => ∃ (k : Nat) (T : Int), (k : Int) ≤ n ∧ 0 ≤ T ∧ T ≤ 1048576 ∧ v3 = .int .i64 T ∧ v4 = .int .i64 k ∧ Hid (∀ i, i < k → (rows.getD i []).length ≤ 1048576)) (fun _ v4 => n - (intOf v4).toNat)
    case atStart => exact ⟨0, n, by omega, by omega, by omega, rfl, rfl, fun i hi => by omega⟩
    case round =>
      obtain ⟨k, T, hk, hT0, hT1, rfl, rfl, HK⟩ := hrel
      by_cases hlt : k < n
      · obtain ⟨b, off, rfl, ra, rc, N, eN, hcell⟩ : ∃ b off, a = some ⟨b, off, none⟩ ∧ ∃ ra rc N, N = (rows.getD k []).length ∧ w.cell? ⟨b, off + k, none⟩ = some (.slice ra N rc) := by
          rcases HV.out.2 with h | ⟨b, off, h, hb, h2⟩
          · omega
          · obtain ⟨v, g1, ra, rc, g2, g3, g4⟩ := h2 k hlt
            exact ⟨b, off, h, ra, rc, _, rfl, by rw [← g2]; exact g1⟩
        have hN : N ≤ 9223372036854775807 := by rw [eN]; exact HL.out k hlt
        have EN : Hid (N = (rows.getD k []).length) := eN
        clear eN
        have hki : (k : Int) < (n : Int) := by omega
        by_cases hN1 : N ≤ 1048576
        · have HK' : Hid (∀ i, i < k + 1 → (rows.getD i []).length ≤ 1048576) := fun i hi => by
            by_cases e : i = k
            · rw [e, ← EN.out]; exact hN1
            · exact HK.out i (by omega)
          go_wp2
          · go_ret
            exact ⟨BoolIf.no, rfl⟩
          · go_round
            case rel => exact ⟨k + 1, T + N, by omega, by omega, by omega, by go_num, by go_num, HK'⟩
            case measure => simp [intOf]; omega
        · go_wp2
          go_ret
          exact ⟨BoolIf.no, rfl⟩
      · obtain rfl : k = n := by omega
        go_wp2
        go_ret
        exact ⟨BoolIf.yes ⟨hs, HK.out⟩, rfl⟩
  · go_enter Try.func12, Try.ntmps12
    go_wp2
    go_ret
    exact ⟨BoolIf.no, rfl⟩

end Go.Proofs.Qxb6627829a
