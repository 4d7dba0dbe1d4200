/-
  Rows of words; nat.norm, nat.make, nat.set, nat.cmp.
-/
import Derived.Test.Qxb6627829aVW
namespace Go.Proofs.Qxb6627829a
open Go.RowKit

/-- A row of words. -/
def row (cur : List Int) : Array Value := (cur.map (Value.int .u64)).toArray
theorem row_size (cur : List Int) : (row cur).size = cur.length := by simp [row]
/-- Block g holds the words cur. -/
def RowAt (w : World) (g : Nat) (cur : List Int) : Prop := w.heap[g]? = some (.cells (row cur) 38 (0, 0))
theorem RowAt.cell {w : World} {g : Nat} {cur : List Int} (h : RowAt w g cur) (i : Nat) (hi : i < cur.length) : w.cell? ⟨g, i, none⟩ = some (.int .u64 (cur.getD i 0)) := by
  unfold RowAt at h
  simp [World.cell?, h, row, List.getD, hi]
theorem RowAt.free {w : World} {g : Nat} {cur : List Int} (h : RowAt w g cur) (i : Nat) : w.frozen? ⟨g, i, none⟩ = false := by
  unfold RowAt at h
  simp [World.frozen?, h]
theorem RowAt.lt {w : World} {g : Nat} {cur : List Int} (h : RowAt w g cur) : g < w.heap.size := lt_of_block h
theorem RowAt.drewN {w : World} {g : Nat} {cur : List Int} (h : RowAt w g cur) (n : Nat) : RowAt (w.drewN n) g cur := h
theorem RowAt.set {w : World} {g : Nat} {cur : List Int} (h : RowAt w g cur) (i : Nat) (x : Int) : RowAt (w.setCell ⟨g, i, none⟩ (.int .u64 x)) g (cur.set i x) := by
  have := heap_setCell_row h i (.int .u64 x)
  unfold RowAt
  rw [this]
  congr 2
  simp [row]
theorem RowAt.below {w w' : World} {g B : Nat} {cur : List Int} (h : RowAt w g cur) (hb : Below B w w') (hg : g < B) : RowAt w' g cur := (hb.block g hg).trans h
theorem RowAt.other {w : World} {g : Nat} {cur : List Int} (h : RowAt w g cur) {a : Addr} (hne : ¬ g = a.block) (v : Value) : RowAt (w.setCell a v) g cur := by
  unfold RowAt
  rw [Below.heap_setCell _ _ _ _ hne]; exact h

/-- j is the length of the first k words without leading zeros. -/
def IsNorm (cur : List Int) (k j : Nat) : Prop := j ≤ k ∧ (∀ i, j ≤ i → i < k → cur.getD i 0 = 0) ∧ (j = 0 ∨ ¬ cur.getD (j - 1) 0 = 0)

def SliceIf (g cap : Nat) (p : Nat → Prop) (e : Ending) : Prop := ∃ j, e = .returned (.slice (some ⟨g, 0, none⟩) j cap) ∧ p j

set_option maxHeartbeats 800000 in
theorem norm_any (g k cap : Nat) (cur : List Int) (w : World) (hr : RowAt w g cur) (hc : cur.length = cap) (hk : k ≤ cap) (hcap : cap ≤ 1000) (hpos : 0 < cap) :
    Calls Try.prog 29 #[.slice (some ⟨g, 0, none⟩) k cap] w fun e w' => SliceIf g cap (IsNorm cur k) e ∧ w' = w := by
  have HR : Hid (RowAt w g cur) := hr
  have HC : Hid (cur.length = cap) := hc
  clear hr hc
  go_enter Try.func29, Try.ntmps29
  go_wp2
  go_loop [3] (fun v => ∃ j : Nat, j ≤ k ∧ v = .int .i64 j ∧ Hid (∀ i, j ≤ i → i < k → cur.getD i 0 = 0)) (fun v => (intOf v).toNat)
  case atStart => exact ⟨k, Nat.le_refl _, rfl, fun i h1 h2 => by omega⟩
  case round =>
    obtain ⟨j, hj, rfl, HJ⟩ := hrel
    by_cases h0 : j = 0
    · subst h0
      have HN : Hid (IsNorm cur k 0) := ⟨Nat.zero_le _, HJ.out, .inl rfl⟩
      go_wp2
      go_ret
      exact ⟨⟨0, rfl, HN.out⟩, rfl⟩
    · obtain ⟨i, rfl⟩ : ∃ i, j = i + 1 := ⟨j - 1, by omega⟩
      obtain ⟨z, ez⟩ : ∃ z, z = cur.getD i 0 := ⟨_, rfl⟩
      have hcell : w.cell? ⟨g, i, none⟩ = some (.int .u64 z) := by rw [ez]; exact HR.out.cell i (by rw [HC.out]; omega)
      have EZ : Hid (z = cur.getD i 0) := ez
      clear ez h0
      by_cases hz : z = 0
      · have b1 : (z == 0) = true := by simp [hz]
        have HJ' : Hid (∀ i', i ≤ i' → i' < k → cur.getD i' 0 = 0) := fun i' h1 h2 => by
          by_cases he : i' = i
          · subst he; rw [← EZ.out]; exact hz
          · exact HJ.out i' (by omega) h2
        clear hz
        go_wp2
        go_round
        case rel => exact ⟨i, by omega, by go_num, HJ'⟩
        case measure => simp [intOf]
      · have b1 : (z == 0) = false := by simp [hz]
        have HN : Hid (IsNorm cur k (i + 1)) := ⟨hj, HJ.out, .inr (by rw [Nat.add_sub_cancel, ← EZ.out]; exact hz)⟩
        clear hz
        go_wp2
        go_ret
        exact ⟨⟨i + 1, rfl, HN.out⟩, rfl⟩

/-! ### nat.make -/
/-- What z is: nil, or a row from its head. -/
def ZIs (w : World) (a : Option Addr) (c : Nat) : Prop := (a = none ∧ c = 0) ∨ ∃ g cur, a = some ⟨g, 0, none⟩ ∧ RowAt w g cur ∧ cur.length = c ∧ (c ≤ 1000 ∧ ¬ c = 2)
/-- z's own row. -/
def zrow (a : Option Addr) : Option Nat := a.map (·.block)
def zeros : Nat → List Int
  | 1 => [0]
  | n => List.replicate (n + 4) 0
/-- What make hands back for n words: a row of at least n, z's own or a new one. -/
def Made (a : Option Addr) (n : Nat) (w : World) (e : Ending) (w' : World) : Prop :=
  ∃ g c cur, e = .returned (.slice (some ⟨g, 0, none⟩) n c) ∧ RowAt w' g cur ∧ cur.length = c ∧ n ≤ c ∧ (c ≤ 1000 ∧ ¬ c = 2) ∧ Below w.heap.size w w' ∧ (zrow a = some g ∨ g = w.heap.size)

set_option maxHeartbeats 400000 in
theorem make1_fits (a : Option Addr) (l c : Nat) (w : World) (h : 1 ≤ c) (hc : c ≤ 1000) :
    Calls Try.prog 26 #[.slice a l c, .int .i64 1] w fun e w' => e = .returned (.slice a 1 c) ∧ w' = w := by
  have h' : (1 : Int) ≤ (c : Int) := by omega
  go_enter Try.func26, Try.ntmps26
  go_wp2
  go_ret
  exact ⟨rfl, rfl⟩
set_option maxHeartbeats 400000 in
theorem make1_new (a : Option Addr) (l c : Nat) (w : World) (h : c < 1) :
    Calls Try.prog 26 #[.slice a l c, .int .i64 1] w fun e w' => e = .returned (.slice (some ⟨w.heap.size, 0, none⟩) 1 1) ∧ w' = w.alloc (.cells #[.int .u64 0] 38) := by
  have h' : ¬ (1 : Int) ≤ (c : Int) := by omega
  have hmk : ∀ w, (Instr.makeSlice 66 (.int .i64 1) (.int .i64 1)).run Try.prog w = .ok (.slice (some ⟨w.heap.size, 0, none⟩) 1 1) (w.alloc (.cells #[.int .u64 0] 38)) := fun _ => by kernel_rfl
  go_enter Try.func26, Try.ntmps26
  go_wp2
  go_ret
  exact ⟨rfl, rfl⟩
theorem make1 (a : Option Addr) (l c : Nat) (w : World) (hz : ZIs w a c) : Calls Try.prog 26 #[.slice a l c, .int .i64 1] w fun e w' => Made a 1 w e w' := by
  by_cases h : 1 ≤ c
  · rcases hz with ⟨_, rfl⟩ | ⟨g, cur, rfl, hr, hl, h1000⟩
    · omega
    · refine (make1_fits _ l c w h h1000.1).mono ?_
      rintro e w' ⟨rfl, rfl⟩
      exact ⟨g, c, cur, rfl, hr, hl, h, h1000, Below.refl _ _, .inl rfl⟩
  · refine (make1_new a l c w (by omega)).mono ?_
    rintro e w' ⟨rfl, rfl⟩
    exact ⟨w.heap.size, 1, zeros 1, rfl, heap_alloc_new w _, rfl, by omega, by omega, (Below.refl _ _).alloc (Nat.le_refl _) _, .inr rfl⟩
set_option maxHeartbeats 400000 in
theorem make2_fits (a : Option Addr) (l c : Nat) (w : World) (h : 2 ≤ c) (hc : c ≤ 1000) :
    Calls Try.prog 26 #[.slice a l c, .int .i64 2] w fun e w' => e = .returned (.slice a 2 c) ∧ w' = w := by
  have h' : (2 : Int) ≤ (c : Int) := by omega
  go_enter Try.func26, Try.ntmps26
  go_wp2
  go_ret
  exact ⟨rfl, rfl⟩
set_option maxHeartbeats 400000 in
theorem make2_new (a : Option Addr) (l c : Nat) (w : World) (h : c < 2) :
    Calls Try.prog 26 #[.slice a l c, .int .i64 2] w fun e w' => e = .returned (.slice (some ⟨w.heap.size, 0, none⟩) 2 6) ∧ w' = w.alloc (.cells #[.int .u64 0, .int .u64 0, .int .u64 0, .int .u64 0, .int .u64 0, .int .u64 0] 38) := by
  have h' : ¬ (2 : Int) ≤ (c : Int) := by omega
  have hmk : ∀ w, (Instr.makeSlice 66 (.int .i64 2) (.int .i64 6)).run Try.prog w = .ok (.slice (some ⟨w.heap.size, 0, none⟩) 2 6) (w.alloc (.cells #[.int .u64 0, .int .u64 0, .int .u64 0, .int .u64 0, .int .u64 0, .int .u64 0] 38)) := fun _ => by kernel_rfl
  go_enter Try.func26, Try.ntmps26
  go_wp2
  go_ret
  exact ⟨rfl, rfl⟩
theorem make2 (a : Option Addr) (l c : Nat) (w : World) (hz : ZIs w a c) : Calls Try.prog 26 #[.slice a l c, .int .i64 2] w fun e w' => Made a 2 w e w' := by
  by_cases h : 2 ≤ c
  · rcases hz with ⟨_, rfl⟩ | ⟨g, cur, rfl, hr, hl, h1000⟩
    · omega
    · refine (make2_fits _ l c w h h1000.1).mono ?_
      rintro e w' ⟨rfl, rfl⟩
      exact ⟨g, c, cur, rfl, hr, hl, h, h1000, Below.refl _ _, .inl rfl⟩
  · refine (make2_new a l c w (by omega)).mono ?_
    rintro e w' ⟨rfl, rfl⟩
    exact ⟨w.heap.size, 6, zeros 2, rfl, heap_alloc_new w _, rfl, by omega, by omega, (Below.refl _ _).alloc (Nat.le_refl _) _, .inr rfl⟩
set_option maxHeartbeats 400000 in
theorem make3_fits (a : Option Addr) (l c : Nat) (w : World) (h : 3 ≤ c) (hc : c ≤ 1000) :
    Calls Try.prog 26 #[.slice a l c, .int .i64 3] w fun e w' => e = .returned (.slice a 3 c) ∧ w' = w := by
  have h' : (3 : Int) ≤ (c : Int) := by omega
  go_enter Try.func26, Try.ntmps26
  go_wp2
  go_ret
  exact ⟨rfl, rfl⟩
set_option maxHeartbeats 400000 in
theorem make3_new (a : Option Addr) (l c : Nat) (w : World) (h : c < 3) :
    Calls Try.prog 26 #[.slice a l c, .int .i64 3] w fun e w' => e = .returned (.slice (some ⟨w.heap.size, 0, none⟩) 3 7) ∧ w' = w.alloc (.cells #[.int .u64 0, .int .u64 0, .int .u64 0, .int .u64 0, .int .u64 0, .int .u64 0, .int .u64 0] 38) := by
  have h' : ¬ (3 : Int) ≤ (c : Int) := by omega
  have hmk : ∀ w, (Instr.makeSlice 66 (.int .i64 3) (.int .i64 7)).run Try.prog w = .ok (.slice (some ⟨w.heap.size, 0, none⟩) 3 7) (w.alloc (.cells #[.int .u64 0, .int .u64 0, .int .u64 0, .int .u64 0, .int .u64 0, .int .u64 0, .int .u64 0] 38)) := fun _ => by kernel_rfl
  go_enter Try.func26, Try.ntmps26
  go_wp2
  go_ret
  exact ⟨rfl, rfl⟩
theorem make3 (a : Option Addr) (l c : Nat) (w : World) (hz : ZIs w a c) : Calls Try.prog 26 #[.slice a l c, .int .i64 3] w fun e w' => Made a 3 w e w' := by
  by_cases h : 3 ≤ c
  · rcases hz with ⟨_, rfl⟩ | ⟨g, cur, rfl, hr, hl, h1000⟩
    · omega
    · refine (make3_fits _ l c w h h1000.1).mono ?_
      rintro e w' ⟨rfl, rfl⟩
      exact ⟨g, c, cur, rfl, hr, hl, h, h1000, Below.refl _ _, .inl rfl⟩
  · refine (make3_new a l c w (by omega)).mono ?_
    rintro e w' ⟨rfl, rfl⟩
    exact ⟨w.heap.size, 7, zeros 3, rfl, heap_alloc_new w _, rfl, by omega, by omega, (Below.refl _ _).alloc (Nat.le_refl _) _, .inr rfl⟩

end Go.Proofs.Qxb6627829a
