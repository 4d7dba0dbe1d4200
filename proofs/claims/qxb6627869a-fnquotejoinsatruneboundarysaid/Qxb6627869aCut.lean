/-
  Quote over a cut at a rune's boundary, with no Go in sight
-/
import Derived.Test.Qxb6627869aModel
import Derived.Lib.RuneCountTail
namespace Go.Proofs.Qxb6627869a
open Go.RowKit

theorem decodeN_cut {m n b0 b1 b2 b3 c1 c2 c3 : Nat} (hm : 1 ≤ m) (hmn : m ≤ n) (h1 : 1 < m → c1 = b1) (h2 : 2 < m → c2 = b2) (h3 : 3 < m → c3 = b3)
    (k1 : m = 1 → 1 < n → ¬ b1 / 64 = 2) (k2 : m = 2 → 2 < n → ¬ b2 / 64 = 2) (k3 : m = 3 → 3 < n → ¬ b3 / 64 = 2) : Lib.decodeN m b0 c1 c2 c3 = Lib.decodeN n b0 b1 b2 b3 := by
  rcases (show m = 1 ∨ m = 2 ∨ m = 3 ∨ 4 ≤ m by omega) with e | e | e | e
  · have q1 : ¬ (1 < m ∧ c1 / 64 = 2) := by omega
    have p1 : ¬ (1 < n ∧ b1 / 64 = 2) := fun h => k1 e h.1 h.2
    unfold Lib.decodeN
    simp only [q1, p1, false_and, and_false, if_false]
  · have e1 := h1 (by omega)
    subst e1
    have q1 : (1 < m) = True := eq_true (by omega)
    have p1 : (1 < n) = True := eq_true (by omega)
    have q2 : ¬ (2 < m ∧ c2 / 64 = 2) := by omega
    have p2 : ¬ (2 < n ∧ b2 / 64 = 2) := fun h => k2 e h.1 h.2
    unfold Lib.decodeN
    simp only [q1, p1, q2, p2, false_and, and_false, true_and, if_false]
  · have e1 := h1 (by omega)
    have e2 := h2 (by omega)
    subst e1 e2
    have q1 : (1 < m) = True := eq_true (by omega)
    have p1 : (1 < n) = True := eq_true (by omega)
    have q2 : (2 < m) = True := eq_true (by omega)
    have p2 : (2 < n) = True := eq_true (by omega)
    have q3 : ¬ (3 < m ∧ c3 / 64 = 2) := by omega
    have p3 : ¬ (3 < n ∧ b3 / 64 = 2) := fun h => k3 e h.1 h.2
    unfold Lib.decodeN
    simp only [q1, p1, q2, p2, q3, p3, and_false, true_and, if_false]
  · have e1 := h1 (by omega)
    have e2 := h2 (by omega)
    have e3 := h3 (by omega)
    subst e1 e2 e3
    have q1 : (1 < m) = True := eq_true (by omega)
    have p1 : (1 < n) = True := eq_true (by omega)
    have q2 : (2 < m) = True := eq_true (by omega)
    have p2 : (2 < n) = True := eq_true (by omega)
    have q3 : (3 < m) = True := eq_true (by omega)
    have p3 : (3 < n) = True := eq_true (by omega)
    unfold Lib.decodeN
    simp only [q1, p1, q2, p2, q3, p3, true_and]

theorem head_size (s : ByteArray) (i : Nat) (hi : i ≤ s.size) : (s.extract 0 i).size = i := by
  rw [Lib.size_eq, Lib.extract_data, List.length_take, List.length_drop, ← Lib.size_eq]
  omega
theorem head_get! (s : ByteArray) (i j : Nat) (hj : j < i) : (s.extract 0 i).get! j = s.get! j := by
  rw [← Lib.getD_get!', ← Lib.getD_get!', Lib.extract_data]
  simp [List.getD, hj]

theorem head_decode (s : ByteArray) (i pos : Nat) (hi : i ≤ s.size) (hp : pos < i) (hc : i < s.size → ¬ (128 ≤ byteAt s i ∧ byteAt s i ≤ 191)) : Utf8.decode (s.extract 0 i) pos = Utf8.decode s pos := by
  rw [Lib.decode_at, Lib.decode_at, head_size s i hi, head_get! s i pos hp]
  refine decodeN_cut (by omega) (by omega) (fun h => by rw [head_get! s i _ (by omega)]) (fun h => by rw [head_get! s i _ (by omega)]) (fun h => by rw [head_get! s i _ (by omega)]) ?_ ?_ ?_
  · intro h h2
    have e : i = pos + 1 := by omega
    have := hc (by omega)
    rw [e] at this
    unfold byteAt at this
    omega
  · intro h h2
    have e : i = pos + 2 := by omega
    have := hc (by omega)
    rw [e] at this
    unfold byteAt at this
    omega
  · intro h h2
    have e : i = pos + 3 := by omega
    have := hc (by omega)
    rw [e] at this
    unfold byteAt at this
    omega

theorem decode_fits (s : ByteArray) (pos : Nat) (hp : pos < s.size) : pos + (Utf8.decode s pos).2 ≤ s.size := by
  rcases piece s pos hp with ⟨_, _, _, h⟩ | ⟨_, _, _, h⟩ | ⟨_, _, h2, _, h⟩
  · rw [h]; omega
  · rw [h]; omega
  · rw [h]; exact h2

theorem qFrom_fuel (s : ByteArray) : ∀ f g pos, s.size - pos ≤ f → s.size - pos ≤ g → qFrom s f pos = qFrom s g pos
  | 0, g, pos, hf, _ => by rw [qFrom_end s g pos (by omega)]; rfl
  | f + 1, 0, pos, _, hg => by rw [qFrom_end s (f + 1) pos (by omega)]; rfl
  | f + 1, g + 1, pos, hf, hg => by
    by_cases h : pos < s.size
    · have hw := width_pos s pos h
      rw [qFrom_step s f pos h, qFrom_step s g pos h, qFrom_fuel s f g _ (by omega) (by omega)]
    · rw [qFrom_end s _ pos h, qFrom_end s _ pos h]

theorem qFrom_head (s : ByteArray) (i : Nat) (hi : i ≤ s.size) (hc : i < s.size → ¬ (128 ≤ byteAt s i ∧ byteAt s i ≤ 191)) :
    ∀ g f pos, pos ≤ i → i - pos ≤ g → s.size - pos ≤ f → qFrom s f pos = qFrom (s.extract 0 i) g pos ++ qFrom s s.size i
  | 0, f, pos, h1, h2, h3 => by
    obtain rfl : pos = i := by omega
    rw [qFrom_fuel s f s.size pos h3 (by omega)]; rfl
  | g + 1, f, pos, h1, h2, h3 => by
    by_cases hp : pos < i
    · obtain ⟨f', rfl⟩ : ∃ f', f = f' + 1 := ⟨f - 1, by omega⟩
      have hpa : pos < (s.extract 0 i).size := by rw [head_size s i hi]; exact hp
      have hw := width_pos s pos (by omega)
      have hfit := decode_fits _ pos hpa
      rw [head_size s i hi, head_decode s i pos hi hp hc] at hfit
      rw [qFrom_step s f' pos (by omega), qFrom_step _ g pos hpa, head_decode s i pos hi hp hc, qFrom_head s i hi hc g f' _ hfit (by omega) (by omega), List.append_assoc]
    · obtain rfl : pos = i := by omega
      rw [qFrom_end (s.extract 0 pos) (g + 1) pos (by rw [head_size s pos hi]; omega), qFrom_fuel s f s.size pos h3 (by omega)]; rfl

theorem qFrom_tail (s : ByteArray) (i : Nat) : ∀ f pos, qFrom (s.extract i s.size) f pos = qFrom s f (i + pos)
  | 0, _ => rfl
  | f + 1, pos => by
    by_cases h : i + pos < s.size
    · rw [qFrom_step s f _ h, qFrom_step _ f pos (by rw [Lib.tail_size]; omega), Lib.tail_decode, qFrom_tail s i f, Nat.add_assoc]
    · rw [qFrom_end s _ _ h, qFrom_end _ _ pos (by rw [Lib.tail_size]; omega)]

/-- The law. -/
theorem quote_join (s : ByteArray) (i : Nat) (hi : i ≤ s.size) (hc : i < s.size → ¬ (128 ≤ byteAt s i ∧ byteAt s i ≤ 191)) :
    quote s = (34 :: qFrom (s.extract 0 i) (s.extract 0 i).size 0) ++ (qFrom (s.extract i s.size) (s.extract i s.size).size 0 ++ [34]) := by
  unfold quote
  rw [qFrom_head s i hi hc i s.size 0 (by omega) (by omega) (by omega), head_size s i hi, qFrom_tail, Lib.tail_size, Nat.add_zero, qFrom_fuel s (s.size - i) s.size i (by omega) (by omega), List.append_assoc]
  rfl

/-- The quote of a part, as the law cuts it. -/
theorem quote_front (s : ByteArray) : (quote s).take ((quote s).length - 1) = 34 :: qFrom s s.size 0 := by
  unfold quote
  rw [List.length_cons, List.length_append, Nat.add_sub_cancel]
  show (34 :: (qFrom s s.size 0 ++ [34])).take ((qFrom s s.size 0).length + 1) = _
  rw [List.take_succ_cons, List.take_left]
theorem quote_back (s : ByteArray) : (quote s).drop 1 = qFrom s s.size 0 ++ [34] := rfl
theorem quote_len (s : ByteArray) : (quote s).length = (qFrom s s.size 0).length + 2 := by unfold quote; simp

def quoteB (s : ByteArray) : ByteArray := ⟨(quote s).toArray⟩
theorem quoteB_list (s : ByteArray) : (quoteB s).data.toList = quote s := rfl
theorem quoteB_size (s : ByteArray) : (quoteB s).size = (quote s).length := by rw [Lib.size_eq, quoteB_list]

theorem byteArray_ext {a b : ByteArray} (h : a.data.toList = b.data.toList) : a = b := by
  obtain ⟨⟨l⟩⟩ := a
  obtain ⟨⟨m⟩⟩ := b
  simp only at h
  rw [h]

theorem quoteB_join (s : ByteArray) (i : Nat) (hi : i ≤ s.size) (hc : i < s.size → ¬ (128 ≤ byteAt s i ∧ byteAt s i ≤ 191)) :
    (quoteB (s.extract 0 i)).extract 0 ((quoteB (s.extract 0 i)).size - 1) ++ (quoteB (s.extract i s.size)).extract 1 (quoteB (s.extract i s.size)).size = quoteB s := by
  apply byteArray_ext
  rw [ByteArray.data_append, Array.toList_append, Lib.extract_data, Lib.extract_data, quoteB_list, quoteB_list, quoteB_list, quoteB_size, quoteB_size, quote_join s i hi hc, List.drop_zero, Nat.sub_zero, quote_front, quote_back]
  rw [List.take_of_length_le]
  rw [quote_len]
  simp

end Go.Proofs.Qxb6627869a
