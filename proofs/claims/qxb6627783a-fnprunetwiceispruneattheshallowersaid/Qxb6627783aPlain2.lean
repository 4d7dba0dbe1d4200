/-
  Plain mathematics: the events of 'brackets' against the automaton; pruning twice; the deepest level of what is left.
-/
import Derived.Test.Qxb6627783aPlain
namespace Go.Proofs.Qxb6627783a
open Go.RowKit

theorem keep_of (d : Int) (l : Nat) (c : Int) : keep d ⟨l, false, false⟩ c = if ¬ c = 34 ∧ isOpen c = false ∧ isShut c = true ∧ 0 < l then low d ((l : Int) - 1) else low d l := by
  simp [keep]
theorem keep_ins (d : Int) (s : St) (c : Int) (h : s.ins = true) : keep d s c = low d s.lv := by
  simp [keep, h]

theorem PR_ext {d : Int} {zs : List Int} {i b l : Nat} {f : Int} {xs : List Int} (h : PR d zs i l f xs) (hib : i ≤ b) (hb : b ≤ zs.length) (hk : ∀ p, i ≤ p → p < b → keep d (S zs p) (zs.getD p 0) = low d l) :
    PR d zs b l f xs := by
  have hM := M_seg d zs i b (low d l) hib hb hk
  rcases h with ⟨g, h1, h2, h3, h4⟩ | ⟨h1, h2, h3⟩
  · refine .inl ⟨g, h1, by omega, ?_, h4⟩
    rw [hM, h3, h4, if_pos rfl, List.append_assoc, seg_seg zs g i b h2 hib hb]
  · refine .inr ⟨h1, ?_, h3⟩
    rw [hM, h2, h3]; simp

theorem PR_start (d : Int) (zs : List Int) : PR d zs 0 0 0 [] := by
  refine .inl ⟨0, rfl, Nat.le_refl _, ?_, ?_⟩
  · rw [seg_self]; rfl
  · simp [low]; omega

theorem PR_other {d : Int} {zs : List Int} {i l : Nat} {f : Int} {xs : List Int} (h : PR d zs i l f xs) (hi : i < zs.length) (hs : S zs i = ⟨l, false, false⟩)
    (h2 : isOpen (zs.getD i 0) = false) (h3 : ¬ (isShut (zs.getD i 0) = true ∧ 0 < l)) : PR d zs (i + 1) l f xs := by
  refine PR_ext h (by omega) (by omega) fun p p1 p2 => ?_
  obtain rfl : p = i := by omega
  rw [hs, keep_of, if_neg (fun h => h3 h.2.2)]

theorem PR_str {d : Int} {zs : List Int} {i l E : Nat} {f : Int} {xs : List Int} (h : PR d zs i l f xs) (hi : i < zs.length) (hs : S zs i = ⟨l, false, false⟩)
    (h2 : zs.getD i 0 = 34) (hE : StrEnd zs i E l) : PR d zs (min E zs.length) l f xs := by
  obtain ⟨a, b, c, e⟩ := hE
  refine PR_ext h (by omega) (by omega) fun p p1 p2 => ?_
  by_cases hp : p = i
  · subst hp; rw [hs, keep_of, if_neg (fun h => h.1 h2)]
  · have := c p (by omega) (by omega) (by omega)
    rw [keep_ins d _ _ this.1, this.2]

theorem wrap_succ (d : Int) (h : -9223372036854775808 ≤ d ∧ d ≤ 9223372036854775807) (l : Nat) (hl : (l : Int) ≤ 1048577) (h1 : 1 ≤ l) : ((l : Int) = wrap64 (d + 1)) ↔ (0 ≤ d ∧ (l : Int) = d + 1) := by
  unfold wrap64
  omega

theorem PR_open {d : Int} {zs : List Int} {i l : Nat} {f : Int} {xs : List Int} (hd : -9223372036854775808 ≤ d ∧ d ≤ 9223372036854775807) (hz : zs.length ≤ 1048576) (h : PR d zs i l f xs) (hi : i < zs.length) (hs : S zs i = ⟨l, false, false⟩)
    (h2 : isOpen (zs.getD i 0) = true) : PR d zs (i + 1) (l + 1) (evF d zs i ((l : Int) + 1) f) (evX d zs i ((l : Int) + 1) f xs) := by
  have hl : l ≤ i := by have := S_lv zs i (by omega); rw [hs] at this; exact this
  have hw := wrap_succ d hd (l + 1) (by omega) (by omega)
  have hM := M_succ d zs i hi
  have hk : keep d (S zs i) (zs.getD i 0) = low d l := by rw [hs, keep_of, if_neg (fun h => by rw [h2] at h; exact absurd h.2.1 (by simp))]
  rw [hk] at hM
  unfold evF evX
  rw [Int.natCast_add, Int.natCast_one] at hw
  by_cases hc : (l : Int) + 1 = wrap64 (d + 1)
  · rw [if_pos hc, if_pos hc, if_pos h2, if_pos h2]
    obtain ⟨d0, d1⟩ := hw.1 hc
    rcases h with ⟨g, e1, e2, e3, e4⟩ | ⟨e1, e2, e3⟩
    · refine .inr ⟨rfl, ?_, by simp [low]; omega⟩
      rw [hM, e4, if_pos rfl, e3, e1, Int.toNat_natCast, seg_succ zs g i e2 hi, List.append_assoc]
    · simp [low] at e3; omega
  · rw [if_neg hc, if_neg hc]
    have hc' : ¬ (0 ≤ d ∧ (l : Int) + 1 = d + 1) := fun x => hc (hw.2 x)
    rcases h with ⟨g, e1, e2, e3, e4⟩ | ⟨e1, e2, e3⟩
    · refine .inl ⟨g, e1, by omega, ?_, ?_⟩
      · rw [hM, e4, if_pos rfl, e3, seg_succ zs g i e2 hi, List.append_assoc]
      · simp [low] at e4 ⊢; omega
    · refine .inr ⟨e1, ?_, ?_⟩
      · rw [hM, e3, e2]; simp
      · simp [low] at e3 ⊢; omega

/-- What the closure asks where it copies. -/
theorem PR_copy {d : Int} {zs : List Int} {i l : Nat} {f : Int} {xs : List Int} (hd : -9223372036854775808 ≤ d ∧ d ≤ 9223372036854775807) (hz : zs.length ≤ 1048576) (h : PR d zs i l f xs) (hi : i < zs.length) (hs : S zs i = ⟨l, false, false⟩)
    (hc : (l : Int) + 1 = wrap64 (d + 1)) : 0 ≤ f ∧ f ≤ i := by
  have hl : l ≤ i := by have := S_lv zs i (by omega); rw [hs] at this; exact this
  have hw := wrap_succ d hd (l + 1) (by omega) (by omega)
  rw [Int.natCast_add, Int.natCast_one] at hw
  obtain ⟨d0, d1⟩ := hw.1 hc
  rcases h with ⟨g, e1, e2, e3, e4⟩ | ⟨e1, e2, e3⟩
  · omega
  · simp [low] at e3; omega

theorem PR_shut {d : Int} {zs : List Int} {i l : Nat} {f : Int} {xs : List Int} (hd : -9223372036854775808 ≤ d ∧ d ≤ 9223372036854775807) (hz : zs.length ≤ 1048576) (h : PR d zs i l f xs) (hi : i < zs.length) (hs : S zs i = ⟨l, false, false⟩)
    (h1 : ¬ zs.getD i 0 = 34) (h2 : isOpen (zs.getD i 0) = false) (h3 : isShut (zs.getD i 0) = true) (h4 : 0 < l) : PR d zs (i + 1) (l - 1) (evF d zs i (l : Int) f) (evX d zs i (l : Int) f xs) := by
  have hl : l ≤ i := by have := S_lv zs i (by omega); rw [hs] at this; exact this
  have hw := wrap_succ d hd l (by omega) (by omega)
  have hM := M_succ d zs i hi
  have hk : keep d (S zs i) (zs.getD i 0) = low d ((l : Int) - 1) := by rw [hs, keep_of, if_pos ⟨h1, h2, h3, h4⟩]
  rw [hk] at hM
  have hcast : ((l - 1 : Nat) : Int) = (l : Int) - 1 := by omega
  unfold evF evX
  by_cases hc : (l : Int) = wrap64 (d + 1)
  · rw [if_pos hc, if_pos hc, if_neg (by rw [h2]; simp), if_neg (by rw [h2]; simp)]
    obtain ⟨d0, d1⟩ := hw.1 hc
    have e5 : low d ((l : Int) - 1) = true := by simp [low]; omega
    rcases h with ⟨g, e1, e2, e3, e4⟩ | ⟨e1, e2, e3⟩
    · simp [low] at e4; omega
    · refine .inl ⟨i, rfl, by omega, ?_, by rw [hcast]; exact e5⟩
      rw [hM, e5, if_pos rfl, e2, seg_succ zs i i (Nat.le_refl _) hi, seg_self]; simp
  · rw [if_neg hc, if_neg hc]
    have hc' : ¬ (0 ≤ d ∧ (l : Int) = d + 1) := fun x => hc (hw.2 x)
    rcases h with ⟨g, e1, e2, e3, e4⟩ | ⟨e1, e2, e3⟩
    · have e5 : low d ((l : Int) - 1) = true := by simp [low] at e4 ⊢; omega
      refine .inl ⟨g, e1, by omega, ?_, by rw [hcast]; exact e5⟩
      rw [hM, e5, if_pos rfl, e3, seg_succ zs g i e2 hi, List.append_assoc]
    · have e5 : low d ((l : Int) - 1) = false := by simp [low] at e3 ⊢; omega
      refine .inr ⟨e1, ?_, by rw [hcast]; exact e5⟩
      rw [hM, e5, e2]; simp

/-! ### Pruning twice -/
theorem low_min (a b l : Int) (ha : 0 ≤ a) (hb : 0 ≤ b) : low (min a b) l = (low a l && low b l) := by
  rw [Bool.eq_iff_iff]; simp [low]; omega
def Rel (a : Int) (s t : St) : Prop := (s.ins = false → s.esc = false) ∧ ((low a s.lv = true ∧ t = s) ∨ (low a s.lv = false ∧ t = ⟨(a + 1).toNat, false, false⟩))

theorem model_id (a : Int) (ha : a < 0) (s : St) (zs : List Int) : model a s zs = zs := by
  induction zs generalizing s with
  | nil => rfl
  | cons c r ih =>
    have : keep a s c = true := by unfold keep low; simp [ha]
    simp [model, this, ih]

theorem nx_kinds (s : St) (c : Int) :
    ((nx s c).lv = s.lv ∧ ∀ d, keep d s c = low d s.lv) ∨
    (s.ins = false ∧ nx s c = ⟨s.lv + 1, false, s.esc⟩ ∧ ∀ d, keep d s c = low d s.lv) ∨
    (s.ins = false ∧ 0 < s.lv ∧ ∀ t : St, t.ins = false → 0 < t.lv → nx t c = ⟨t.lv - 1, false, t.esc⟩ ∧ ∀ d, keep d t c = low d ((t.lv : Int) - 1)) := by
  by_cases hi : s.ins = true
  · refine .inl ⟨?_, fun d => keep_ins d s c hi⟩
    unfold nx; rw [if_pos hi]; (repeat' split) <;> rfl
  · have hi' : s.ins = false := by simpa using hi
    by_cases hq : c = 34
    · refine .inl ⟨?_, fun d => ?_⟩
      · unfold nx; rw [if_neg hi, if_pos hq]
      · unfold keep; rw [if_neg (fun h => h.2.1 hq)]
    · by_cases ho : isOpen c = true
      · refine .inr (.inl ⟨hi', ?_, fun d => ?_⟩)
        · unfold nx; rw [if_neg hi, if_neg hq, if_pos ho]
        · unfold keep; rw [if_neg (fun h => by rw [ho] at h; exact absurd h.2.2.1 (by simp))]
      · have ho' : isOpen c = false := by simpa using ho
        by_cases hs : isShut c = true ∧ 0 < s.lv
        · refine .inr (.inr ⟨hi', hs.2, fun t t1 t2 => ⟨?_, fun d => ?_⟩⟩)
          · unfold nx; rw [if_neg (by rw [t1]; simp), if_neg hq, if_neg ho, if_pos ⟨hs.1, t2⟩]
          · unfold keep; rw [if_pos ⟨t1, hq, ho', hs.1, t2⟩]
        · refine .inl ⟨?_, fun d => ?_⟩
          · unfold nx; rw [if_neg hi, if_neg hq, if_neg ho, if_neg hs]
          · unfold keep; rw [if_neg (fun h => hs h.2.2.2)]

theorem low_iff (d l : Int) (hd : 0 ≤ d) : low d l = decide (l ≤ d) := by
  have : ¬ d < 0 := by omega
  simp [low, this]

theorem rel_step {a : Int} (ha : 0 ≤ a) {s t : St} (h : Rel a s t) (c : Int) :
    Rel a (nx s c) (if keep a s c = true then nx t c else t) ∧ (∀ b, 0 ≤ b → keep (min a b) s c = (keep a s c && keep b t c)) ∧ (keep a s c = true → (nx t c).lv = (nx s c).lv ∧ ((nx s c).lv : Int) ≤ a + 1) ∧
      (keep a s c = false → a < s.lv ∧ a < (nx s c).lv) := by
  obtain ⟨he, h⟩ := h
  have he' := nx_esc s c he
  rcases h with ⟨h1, rfl⟩ | ⟨h1, rfl⟩
  · -- the state is low: it is the same on both sides
    have hl : (t.lv : Int) ≤ a := by rw [low_iff _ _ ha] at h1; simpa using h1
    rcases nx_kinds t c with ⟨k1, k2⟩ | ⟨k0, k1, k2⟩ | ⟨k0, k1, k2⟩
    · have e : ∀ d, keep d t c = low d t.lv := k2
      refine ⟨⟨he', ?_⟩, fun b hb => by rw [e, e, e, low_min a b _ ha hb], fun _ => ⟨rfl, by omega⟩, fun h => ?_⟩
      · rw [e, h1, if_pos rfl]; exact .inl ⟨by rw [k1]; exact h1, rfl⟩
      · rw [e, h1] at h; cases h
    · refine ⟨⟨he', ?_⟩, fun b hb => by rw [k2, k2, k2, low_min a b _ ha hb], fun _ => ⟨rfl, by rw [k1]; simp; omega⟩, fun h => ?_⟩
      · rw [k2, h1, if_pos rfl]
        by_cases h3 : (t.lv : Int) + 1 ≤ a
        · exact .inl ⟨by rw [k1, low_iff _ _ ha]; simpa using h3, rfl⟩
        · refine .inr ⟨by rw [k1, low_iff _ _ ha]; simp; omega, ?_⟩
          rw [k1, he k0, show t.lv + 1 = (a + 1).toNat by omega]
      · rw [k2, h1] at h; cases h
    · obtain ⟨n1, n2⟩ := k2 t k0 k1
      have hk : ∀ d, 0 ≤ d → low d ((t.lv : Int) - 1) = decide ((t.lv : Int) - 1 ≤ d) := fun d hd => low_iff _ _ hd
      refine ⟨⟨he', ?_⟩, fun b hb => by rw [n2, n2, n2, low_min a b _ ha hb], fun _ => ⟨rfl, by rw [n1]; simp; omega⟩, fun h => ?_⟩
      · rw [n2, hk a ha, if_pos (by simp; omega)]
        exact .inl ⟨by rw [n1, low_iff _ _ ha]; simp; omega, rfl⟩
      · rw [n2, hk a ha] at h; simp at h; omega
  · -- the state is deep
    have hl : a < (s.lv : Int) := by rw [low_iff _ _ ha] at h1; simpa using h1
    have dead : ∀ b, 0 ≤ b → low (min a b) s.lv = false := fun b hb => by rw [low_min a b _ ha hb, h1]; rfl
    rcases nx_kinds s c with ⟨k1, k2⟩ | ⟨k0, k1, k2⟩ | ⟨k0, k1, k2⟩
    · refine ⟨⟨he', ?_⟩, fun b hb => by rw [k2, k2, h1, dead b hb]; rfl, fun h => ?_, fun _ => ⟨hl, by rw [k1]; exact hl⟩⟩
      · rw [k2, h1, if_neg (by simp)]; exact .inr ⟨by rw [k1]; exact h1, rfl⟩
      · rw [k2, h1] at h; cases h
    · refine ⟨⟨he', ?_⟩, fun b hb => by rw [k2, k2, h1, dead b hb]; rfl, fun h => ?_, fun _ => ⟨hl, by rw [k1]; simp; omega⟩⟩
      · rw [k2, h1, if_neg (by simp)]; exact .inr ⟨by rw [k1, low_iff _ _ ha]; simp; omega, rfl⟩
      · rw [k2, h1] at h; cases h
    · obtain ⟨n1, n2⟩ := k2 s k0 k1
      obtain ⟨m1, m2⟩ := k2 ⟨(a + 1).toNat, false, false⟩ rfl (by simp; omega)
      by_cases h3 : (s.lv : Int) = a + 1
      · have e1 : low a ((s.lv : Int) - 1) = true := by rw [low_iff _ _ ha]; simp; omega
        refine ⟨⟨he', ?_⟩, fun b hb => ?_, fun _ => ⟨by rw [n1, m1]; simp; omega, by rw [n1]; simp; omega⟩, fun h => ?_⟩
        · rw [n2, e1, if_pos rfl]
          refine .inl ⟨by rw [n1, low_iff _ _ ha]; simp; omega, ?_⟩
          rw [n1, m1, he k0]; simp; omega
        · rw [n2, n2, m2, low_min a b _ ha hb]
          simp only []
          rw [show (((a + 1).toNat : Nat) : Int) - 1 = (s.lv : Int) - 1 by omega]
        · rw [n2, e1] at h; cases h
      · have e1 : low a ((s.lv : Int) - 1) = false := by rw [low_iff _ _ ha]; simp; omega
        refine ⟨⟨he', ?_⟩, fun b hb => by rw [n2, n2, low_min a b _ ha hb, e1]; rfl, fun h => ?_, fun _ => ⟨hl, by rw [n1]; simp; omega⟩⟩
        · rw [n2, e1, if_neg (by simp)]; exact .inr ⟨by rw [n1, low_iff _ _ ha]; simp; omega, rfl⟩
        · rw [n2, e1] at h; cases h

theorem model_twice {a b : Int} (ha : 0 ≤ a) (hb : 0 ≤ b) {s t : St} (h : Rel a s t) (zs : List Int) : model b t (model a s zs) = model (min a b) s zs := by
  induction zs generalizing s t with
  | nil => rfl
  | cons c r ih =>
    obtain ⟨h1, h2, _, _⟩ := rel_step ha h c
    have h3 := h2 b hb
    have h4 := ih h1
    simp only [model]
    cases hk : keep a s c with
    | true =>
      rw [hk, if_pos rfl] at h4
      rw [hk, Bool.true_and] at h3
      simp only [if_true, List.cons_append, List.nil_append, model, h3, h4]
    | false =>
      rw [hk, if_neg (by simp)] at h4
      rw [hk, Bool.false_and] at h3
      simp [h3, h4]

theorem mxl_model {a : Int} (ha : 0 ≤ a) {s t : St} (h : Rel a s t) (zs : List Int) (m : Nat) (hm : s.lv ≤ m) : mxl t (min m (a + 1).toNat) (model a s zs) = min (mxl s m zs) (a + 1).toNat := by
  induction zs generalizing s t m with
  | nil => rfl
  | cons c r ih =>
    obtain ⟨h1, _, h3, h5⟩ := rel_step ha h c
    have h4 := ih h1 (max m (nx s c).lv) (Nat.le_max_right _ _)
    simp only [model, mxl]
    cases hk : keep a s c with
    | true =>
      rw [hk, if_pos rfl] at h4
      obtain ⟨e1, e2⟩ := h3 hk
      simp only [if_true, List.cons_append, List.nil_append, mxl]
      rw [← h4, e1]
      congr 1
      omega
    | false =>
      rw [hk, if_neg (by simp)] at h4
      obtain ⟨e1, e2⟩ := h5 hk
      simp only [Bool.false_eq_true, if_false, List.nil_append]
      rw [← h4]
      congr 1
      omega

theorem rel_s0 {a : Int} (ha : 0 ≤ a) : Rel a s0 s0 := ⟨fun _ => rfl, .inl ⟨by rw [low_iff _ _ ha, decide_eq_true_eq]; exact ha, rfl⟩⟩

/-- The law of the two depths. -/
def shallow (a b : Int) : Int := if a < 0 then b else if 0 ≤ b ∧ b < a then b else a
theorem twice_law (a b : Int) (zs : List Int) : model b s0 (model a s0 zs) = model (shallow a b) s0 zs := by
  unfold shallow
  by_cases ha : a < 0
  · rw [if_pos ha, model_id a ha]
  · rw [if_neg ha]
    by_cases hb : b < 0
    · rw [model_id b hb, if_neg (by omega)]
    · rw [model_twice (by omega) (by omega) (rel_s0 (by omega))]
      by_cases hc : 0 ≤ b ∧ b < a
      · rw [if_pos hc, Int.min_eq_right (by omega)]
      · rw [if_neg hc, Int.min_eq_left (by omega)]
theorem level_law (a : Int) (zs : List Int) : (mxl s0 0 (model a s0 zs) : Int) = if 0 ≤ a ∧ a < (mxl s0 0 zs : Int) then a + 1 else (mxl s0 0 zs : Int) := by
  by_cases ha : a < 0
  · rw [model_id a ha, if_neg (by omega)]
  · have h := mxl_model (a := a) (by omega) (rel_s0 (by omega)) zs 0 (Nat.le_refl _)
    rw [Nat.zero_min] at h
    rw [h]
    split <;> omega

end Go.Proofs.Qxb6627783a
