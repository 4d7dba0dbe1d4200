/-
  Plain mathematics, no Go in sight: the automaton that counts brackets outside strings, what it keeps at a depth, and its laws.
-/
import Derived.Below
namespace Go.Proofs.Qxb6627783a
open Go.RowKit

structure St where
  lv : Nat
  ins : Bool
  esc : Bool

def isOpen (c : Int) : Bool := decide (c = 123) || decide (c = 91)
def isShut (c : Int) : Bool := decide (c = 125) || decide (c = 93)

/-- One byte. -/
def nx (s : St) (c : Int) : St :=
  if s.ins = true then
    if s.esc = true then ⟨s.lv, true, false⟩
    else if c = 92 then ⟨s.lv, true, true⟩
    else if c = 34 then ⟨s.lv, false, false⟩
    else ⟨s.lv, true, false⟩
  else if c = 34 then ⟨s.lv, true, s.esc⟩
  else if isOpen c = true then ⟨s.lv + 1, false, s.esc⟩
  else if isShut c = true ∧ 0 < s.lv then ⟨s.lv - 1, false, s.esc⟩
  else ⟨s.lv, false, s.esc⟩

/-- At depth d a byte at level l is kept. -/
def low (d : Int) (l : Int) : Bool := decide (d < 0) || decide (l ≤ d)

def keep (d : Int) (s : St) (c : Int) : Bool :=
  if s.ins = false ∧ ¬ c = 34 ∧ isOpen c = false ∧ isShut c = true ∧ 0 < s.lv then low d ((s.lv : Int) - 1) else low d s.lv

def s0 : St := ⟨0, false, false⟩
def stAt (s : St) : List Int → St
  | [] => s
  | c :: r => stAt (nx s c) r
def model (d : Int) (s : St) : List Int → List Int
  | [] => []
  | c :: r => (if keep d s c = true then [c] else []) ++ model d (nx s c) r
/-- The deepest level that an opening bracket reaches, from 'best' on. -/
def mxl (s : St) (best : Nat) : List Int → Nat
  | [] => best
  | c :: r => mxl (nx s c) (max best (nx s c).lv) r

theorem stAt_append (s : St) (a b : List Int) : stAt s (a ++ b) = stAt (stAt s a) b := by
  induction a generalizing s with
  | nil => rfl
  | cons c r ih => exact ih _
theorem model_append (d : Int) (s : St) (a b : List Int) : model d s (a ++ b) = model d s a ++ model d (stAt s a) b := by
  induction a generalizing s with
  | nil => rfl
  | cons c r ih => simp only [List.cons_append, model, stAt, ih, List.append_assoc]
theorem mxl_append (s : St) (m : Nat) (a b : List Int) : mxl s m (a ++ b) = mxl (stAt s a) (mxl s m a) b := by
  induction a generalizing s m with
  | nil => rfl
  | cons c r ih => exact ih _ _
theorem mxl_ge (s : St) (m : Nat) (a : List Int) : m ≤ mxl s m a := by
  induction a generalizing s m with
  | nil => exact Nat.le_refl _
  | cons c r ih => exact Nat.le_trans (Nat.le_max_left _ _) (ih _ _)

/-! ### Position by position -/
def S (zs : List Int) (k : Nat) : St := stAt s0 (zs.take k)
def M (d : Int) (zs : List Int) (k : Nat) : List Int := model d s0 (zs.take k)
def L (zs : List Int) (k : Nat) : Nat := mxl s0 0 (zs.take k)

theorem take_one (zs : List Int) (k : Nat) (h : k < zs.length) : zs.take (k + 1) = zs.take k ++ [zs.getD k 0] := by
  rw [List.take_succ_eq_append_getElem h]; simp [List.getD, h]
theorem S_succ (zs : List Int) (k : Nat) (h : k < zs.length) : S zs (k + 1) = nx (S zs k) (zs.getD k 0) := by
  unfold S; rw [take_one zs k h, stAt_append]; rfl
theorem M_succ (d : Int) (zs : List Int) (k : Nat) (h : k < zs.length) : M d zs (k + 1) = M d zs k ++ (if keep d (S zs k) (zs.getD k 0) = true then [zs.getD k 0] else []) := by
  unfold M S; rw [take_one zs k h, model_append]; simp [model]
theorem L_succ (zs : List Int) (k : Nat) (h : k < zs.length) : L zs (k + 1) = max (L zs k) (S zs (k + 1)).lv := by
  rw [S_succ zs k h]; unfold L S; rw [take_one zs k h, mxl_append]; rfl
theorem nx_lv (s : St) (c : Int) : (nx s c).lv ≤ s.lv + 1 := by
  unfold nx; (repeat' split) <;> simp <;> omega
theorem S_lv (zs : List Int) (k : Nat) (h : k ≤ zs.length) : (S zs k).lv ≤ k := by
  induction k with
  | zero => exact Nat.le_refl _
  | succ k ih => rw [S_succ zs k h]; have := nx_lv (S zs k) (zs.getD k 0); have := ih (by omega); omega
theorem M_len (d : Int) (zs : List Int) (k : Nat) (h : k ≤ zs.length) : (M d zs k).length ≤ k := by
  induction k with
  | zero => exact Nat.le_refl _
  | succ k ih => rw [M_succ d zs k h]; have := ih (by omega); split <;> simp <;> omega
theorem L_le (zs : List Int) (k : Nat) (h : k ≤ zs.length) : L zs k ≤ k := by
  induction k with
  | zero => exact Nat.le_refl _
  | succ k ih => rw [L_succ zs k h]; have := ih (by omega); have := S_lv zs (k + 1) h; omega
theorem mem_M (d : Int) (s : St) (zs : List Int) : ∀ x ∈ model d s zs, x ∈ zs := by
  induction zs generalizing s with
  | nil => intro x h; exact h
  | cons c r ih =>
    intro x h
    simp only [model, List.mem_append] at h
    rcases h with h | h
    · split at h
      · simp at h; simp [h]
      · simp at h
    · exact List.mem_cons_of_mem _ (ih _ x h)
/-- Outside strings no escape is open. -/
theorem nx_esc (s : St) (c : Int) (h : s.ins = false → s.esc = false) : (nx s c).ins = false → (nx s c).esc = false := by
  obtain ⟨l, i, e⟩ := s
  unfold nx
  cases i <;> simp_all <;> (repeat' split) <;> simp
theorem S_esc (zs : List Int) (k : Nat) (h : k ≤ zs.length) : (S zs k).ins = false → (S zs k).esc = false := by
  induction k with
  | zero => intro _; rfl
  | succ k ih => rw [S_succ zs k h]; exact nx_esc _ _ (ih (by omega))

/-! ### A stretch of bytes that are all kept or all dropped -/
def seg (zs : List Int) (a b : Nat) : List Int := (zs.take b).drop a
theorem seg_succ (zs : List Int) (a b : Nat) (ha : a ≤ b) (hb : b < zs.length) : seg zs a (b + 1) = seg zs a b ++ [zs.getD b 0] := by
  unfold seg; rw [take_one zs b hb, List.drop_append_of_le_length (by simp; omega)]
theorem seg_self (zs : List Int) (a : Nat) : seg zs a a = [] := by unfold seg; exact List.drop_eq_nil_of_le (by simp; omega)
theorem seg_seg (zs : List Int) (a b c : Nat) (h1 : a ≤ b) (h2 : b ≤ c) (h3 : c ≤ zs.length) : seg zs a b ++ seg zs b c = seg zs a c := by
  induction c with
  | zero => obtain rfl : b = 0 := by omega
            rw [seg_self]; simp
  | succ c ih =>
    by_cases hb : b = c + 1
    · subst hb; rw [seg_self]; simp
    · rw [seg_succ zs b c (by omega) h3, seg_succ zs a c (by omega) h3, ← ih (by omega) (by omega), List.append_assoc]
theorem M_seg (d : Int) (zs : List Int) (a b : Nat) (k : Bool) (h1 : a ≤ b) (h2 : b ≤ zs.length) (h : ∀ p, a ≤ p → p < b → keep d (S zs p) (zs.getD p 0) = k) :
    M d zs b = M d zs a ++ (if k = true then seg zs a b else []) := by
  induction b with
  | zero => obtain rfl : a = 0 := by omega
            rw [seg_self]; simp
  | succ b ih =>
    by_cases hb : a = b + 1
    · subst hb; rw [seg_self]; simp
    · rw [M_succ d zs b h2, h b (by omega) (by omega), ih (by omega) (by omega) (fun p p1 p2 => h p p1 (by omega)), seg_succ zs a b (by omega) h2]
      cases k <;> simp

/-! ### stringEnd -/
def StrEnd (zs : List Int) (i E l : Nat) : Prop :=
  i < E ∧ E ≤ zs.length + 2 ∧ (∀ p, i < p → p < E → p ≤ zs.length → (S zs p).ins = true ∧ (S zs p).lv = l) ∧ (E ≤ zs.length → S zs E = ⟨l, false, false⟩)
/-- At the head of its loop. -/
def StrAt (zs : List Int) (i j l : Nat) : Prop :=
  i < j ∧ j ≤ zs.length + 1 ∧ (∀ p, i < p → p < j → p ≤ zs.length → (S zs p).ins = true ∧ (S zs p).lv = l) ∧ (j ≤ zs.length → S zs j = ⟨l, true, false⟩)
theorem strAt_start {zs : List Int} {i l : Nat} (hi : i < zs.length) (hs : S zs i = ⟨l, false, false⟩) (hq : zs.getD i 0 = 34) : StrAt zs i (i + 1) l := by
  refine ⟨by omega, by omega, fun p h1 h2 => by omega, fun _ => ?_⟩
  rw [S_succ zs i hi, hs, hq]; simp [nx]
theorem strAt_plain {zs : List Int} {i j l : Nat} (h : StrAt zs i j l) (hj : j < zs.length) (h1 : ¬ zs.getD j 0 = 34) (h2 : ¬ zs.getD j 0 = 92) : StrAt zs i (j + 1) l := by
  obtain ⟨a, b, c, e⟩ := h
  refine ⟨by omega, by omega, fun p p1 p2 p3 => ?_, fun _ => ?_⟩
  · by_cases hp : p = j
    · subst hp; rw [e p3]; exact ⟨rfl, rfl⟩
    · exact c p p1 (by omega) p3
  · rw [S_succ zs j hj, e (by omega)]; simp only [nx, h1, h2]; simp
theorem strAt_esc {zs : List Int} {i j l : Nat} (h : StrAt zs i j l) (hj : j < zs.length) (h2 : zs.getD j 0 = 92) : StrAt zs i (j + 2) l := by
  obtain ⟨a, b, c, e⟩ := h
  have e1 : S zs (j + 1) = ⟨l, true, true⟩ := by rw [S_succ zs j hj, e (by omega), h2]; simp [nx]
  refine ⟨by omega, by omega, fun p p1 p2 p3 => ?_, fun h3 => ?_⟩
  · by_cases hp : p = j
    · subst hp; rw [e p3]; exact ⟨rfl, rfl⟩
    · by_cases hp : p = j + 1
      · subst hp; rw [e1]; exact ⟨rfl, rfl⟩
      · exact c p p1 (by omega) p3
  · rw [S_succ zs (j + 1) (by omega), e1]; simp [nx]
theorem strEnd_quote {zs : List Int} {i j l : Nat} (h : StrAt zs i j l) (hj : j < zs.length) (h1 : zs.getD j 0 = 34) : StrEnd zs i (j + 1) l := by
  obtain ⟨a, b, c, e⟩ := h
  refine ⟨by omega, by omega, fun p p1 p2 p3 => ?_, fun _ => ?_⟩
  · by_cases hp : p = j
    · subst hp; rw [e p3]; exact ⟨rfl, rfl⟩
    · exact c p p1 (by omega) p3
  · rw [S_succ zs j hj, e (by omega), h1]; simp [nx]
theorem strEnd_out {zs : List Int} {i j l : Nat} (h : StrAt zs i j l) (hj : zs.length ≤ j) : StrEnd zs i (j + 1) l := by
  obtain ⟨a, b, c, e⟩ := h
  refine ⟨by omega, by omega, fun p p1 p2 p3 => ?_, fun _ => by omega⟩
  by_cases hp : p = j
  · subst hp; rw [e p3]; exact ⟨rfl, rfl⟩
  · exact c p p1 (by omega) p3

/-! ### What Prune has gathered when 'brackets' stands at place j, level l: 'xs' copied, the next bytes to copy start at f (or -1) -/
def PR (d : Int) (zs : List Int) (j l : Nat) (f : Int) (xs : List Int) : Prop :=
  (∃ g : Nat, f = g ∧ g ≤ j ∧ M d zs j = xs ++ seg zs g j ∧ low d l = true) ∨ (f = -1 ∧ M d zs j = xs ∧ low d l = false)
/-- What the closure does at an event. -/
def evF (d : Int) (zs : List Int) (i : Nat) (lv : Int) (f : Int) : Int :=
  if lv = wrap64 (d + 1) then (if isOpen (zs.getD i 0) = true then -1 else (i : Int)) else f
def evX (d : Int) (zs : List Int) (i : Nat) (lv : Int) (f : Int) (xs : List Int) : List Int :=
  if lv = wrap64 (d + 1) then (if isOpen (zs.getD i 0) = true then xs ++ seg zs f.toNat (i + 1) else xs) else xs

end Go.Proofs.Qxb6627783a
