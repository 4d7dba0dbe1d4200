/-
  FnQuoteJoinsAtRuneBoundary: the walk.
-/
import Derived.Test.Qxb6627869aRows
import Derived.Test.Qxb6627869aCut
import Derived.Test.Qxb6627869aAscii
import Derived.Deep.QuietTactic
import Derived.BigQuiet
set_option linter.unusedVariables false
namespace Go.Proofs.Qxb6627869a
open Go.RowKit
namespace fnQuoteJoinsAtRuneBoundary

theorem guard_big (s : ByteArray) (i : Int) (w : World) (hm : s.size ≤ maxLen) (hs : 1048576 < s.size) : Calls Try.prog 8 #[.string s, .int .i64 i] w fun e w' => e = .returned (.bool false) ∧ w' = w := by
  unfold maxLen at hm
  have hsi : (1048576 : Int) < (s.size : Int) := by omega
  go_enter Try.func8, Try.ntmps8
  go_wp2
  go_ret
  exact ⟨rfl, rfl⟩
theorem guard_small (s : ByteArray) (i : Int) (w : World) (hs : s.size ≤ 1048576) : Calls Try.prog 8 #[.string s, .int .i64 i] w fun e w' => e = .returned (.bool true) ∧ w' = w := by
  go_enter Try.func8, Try.ntmps8
  go_wp2
  go_ret
  exact ⟨rfl, rfl⟩

theorem qFrom_len (s : ByteArray) : ∀ f pos, (qFrom s f pos).length ≤ 5 * f
  | 0, _ => by simp [qFrom]
  | f + 1, pos => by
    by_cases h : pos < s.size
    · rw [qFrom_step s f pos h, List.length_append]
      have := runeOut_le (Utf8.decode s pos).1
      have := qFrom_len s f (pos + (Utf8.decode s pos).2)
      omega
    · rw [qFrom_end s _ pos h]; simp
theorem quoteB_sizes (s : ByteArray) (hs : s.size ≤ 1048576) : 2 ≤ (quoteB s).size ∧ (quoteB s).size ≤ 5242882 := by
  rw [quoteB_size, quote_len]
  have := qFrom_len s s.size 0
  omega
theorem quoteB_first (s : ByteArray) (h : 0 < (quoteB s).size) : ((quoteB s)[0]'h).toNat = 34 := rfl
theorem get_data (s : ByteArray) (i : Nat) (h : i < s.size) (x : UInt8) (hx : s.data.toList[i]? = some x) : s[i]'h = x := by
  obtain ⟨⟨l⟩⟩ := s
  simp only at hx
  exact (List.getElem?_eq_some_iff.1 hx).2
theorem quoteB_last (s : ByteArray) (k : Nat) (hk : k + 1 = (quoteB s).size) (h : k < (quoteB s).size) : ((quoteB s)[k]'h).toNat = 34 := by
  rw [get_data (quoteB s) k h 34]
  · rfl
  · rw [quoteB_list]
    rw [quoteB_size, quote_len] at hk
    obtain rfl : k = (qFrom s s.size 0).length + 1 := by omega
    unfold quote
    rw [List.getElem?_cons_succ, List.getElem?_append_right (Nat.le_refl _), Nat.sub_self]
    rfl

set_option maxHeartbeats 6400000 in
set_option maxRecDepth 100000 in
/-- The walk at a cut within the string. -/
theorem walk_cut (s : ByteArray) (i : Nat) (w : World) (hs : s.size ≤ 1048576) (hi : i ≤ s.size) (hc : i < s.size → ¬ (128 ≤ byteAt s i ∧ byteAt s i ≤ 191)) :
    Calls Try.prog 4 #[.string s, .int .i64 (i : Int)] w fun e w' => e = .returned (.bool true) ∧ Below w.heap.size w w' := by
  have HC : Hid (i < s.size → ¬ (128 ≤ byteAt s i ∧ byteAt s i ≤ 191)) := hc
  clear hc
  have hi0 : (i : Int) ≤ (s.size : Int) := by omega
  by_cases hlt : i < s.size
  · have hli : (i : Int) < (s.size : Int) := by omega
    obtain ⟨b0, eb⟩ : ∃ b, b = byteAt s i := ⟨_, rfl⟩
    have h0 : (s[i]'hlt).toNat = b0 := by rw [eb]; exact byteAt_eq s i hlt
    have hn := HC.out hlt
    rw [← eb] at hn
    clear eb
    by_cases hb : b0 < 128
    · have hbi : (b0 : Int) < 128 := by omega
      clear hn
      go_enter Try.func4, Try.ntmps4
      go_wp2_with fail
      refine (guard_small s _ _ hs).mono ?_
      rintro e wx ⟨rfl, rfl⟩
      go_wp2_with fail
      refine (quote_walk s _ hs).mono ?_
      rintro e w1 ⟨rfl, b1⟩
      have HB1 : Hid (Below wx.heap.size wx w1) := b1
      clear b1
      obtain ⟨Q, eQ⟩ : ∃ Q : ByteArray, Q = quoteB s := ⟨_, rfl⟩
      rw [show (⟨(quote s).toArray⟩ : ByteArray) = Q from eQ.symm]
      have HQ : Hid (Q = quoteB s) := eQ
      clear eQ
      go_wp2_with fail
      refine (quote_walk (s.extract 0 i) _ (by rw [head_size s i hi]; omega)).mono ?_
      rintro e w2 ⟨rfl, b2⟩
      have HB2 : Hid (Below wx.heap.size wx w2) := HB1.out.trans (b2.mono HB1.out.size)
      clear b2
      obtain ⟨QA, eQ⟩ : ∃ QA : ByteArray, QA = quoteB (s.extract 0 i) := ⟨_, rfl⟩
      rw [show (⟨(quote (s.extract 0 i)).toArray⟩ : ByteArray) = QA from eQ.symm]
      have HQA : Hid (QA = quoteB (s.extract 0 i)) := eQ
      clear eQ
      go_wp2_with fail
      refine (quote_walk (s.extract i s.size) _ (by rw [Lib.tail_size]; omega)).mono ?_
      rintro e w3 ⟨rfl, b3⟩
      have HB3 : Hid (Below wx.heap.size wx w3) := HB2.out.trans (b3.mono HB2.out.size)
      clear b3
      obtain ⟨QB, eQ⟩ : ∃ QB : ByteArray, QB = quoteB (s.extract i s.size) := ⟨_, rfl⟩
      rw [show (⟨(quote (s.extract i s.size)).toArray⟩ : ByteArray) = QB from eQ.symm]
      have HQB : Hid (QB = quoteB (s.extract i s.size)) := eQ
      clear eQ
      clear HB1 HB2
      obtain ⟨q1, q2⟩ : 2 ≤ Q.size ∧ Q.size ≤ 5242882 := by rw [HQ.out]; exact quoteB_sizes s hs
      obtain ⟨qa1, qa2⟩ : 2 ≤ QA.size ∧ QA.size ≤ 5242882 := by rw [HQA.out]; exact quoteB_sizes _ (by rw [head_size s i hi]; omega)
      obtain ⟨qb1, qb2⟩ : 2 ≤ QB.size ∧ QB.size ≤ 5242882 := by rw [HQB.out]; exact quoteB_sizes _ (by rw [Lib.tail_size]; omega)
      have HJ : Hid (QA.extract 0 (QA.size - 1) ++ QB.extract 1 QB.size = Q) := by rw [HQA.out, HQB.out, HQ.out]; exact quoteB_join s i hi HC.out
      have fa : (QA[0]'(by omega)).toNat = 34 := by have := quoteB_first (s.extract 0 i); simp only [← HQA.out] at this; exact this (by omega)
      have fb : (QB[0]'(by omega)).toNat = 34 := by have := quoteB_first (s.extract i s.size); simp only [← HQB.out] at this; exact this (by omega)
      have la : (QA[QA.size - 1]'(by omega)).toNat = 34 := by have := quoteB_last (s.extract 0 i) (QA.size - 1); simp only [← HQA.out] at this; exact this (by omega) (by omega)
      have lb : (QB[QB.size - 1]'(by omega)).toNat = 34 := by have := quoteB_last (s.extract i s.size) (QB.size - 1); simp only [← HQB.out] at this; exact this (by omega) (by omega)
      go_wp2_with fail
      clear fa fb la lb
      have hj := HJ.out
      have hqq : (Q.toList == Q.toList) = true := by simp
      go_quiet (fail)
      have HB4 : Hid (Below wx.heap.size wx (w3.drewN nq)) := below_drewN HB3.out nq
      go_wp2_with fail
      refine (printable_any s _ hs).mono ?_
      rintro e w4 ⟨⟨r, rfl, hr⟩, rfl⟩
      cases r with
      | false =>
        go_wp2
        go_ret
        exact ⟨rfl, HB4.out⟩
      | true =>
        have HPR : Hid (Printable s) := hr rfl
        clear hr
        go_wp2_with fail
        refine (ascii_walk s _ hs HPR.out).mono ?_
        rintro e w5 ⟨rfl, b5⟩
        have HB5 : Hid (Below wx.heap.size wx w5) := HB4.out.trans (b5.mono HB4.out.size)
        clear b5
        rw [show (⟨(quote s).toArray⟩ : ByteArray) = Q from HQ.out.symm]
        go_wp2
        go_ret
        exact ⟨rfl, HB5.out⟩
    · have hbi : (191 : Int) < (b0 : Int) := by omega
      have hbj : (128 : Int) ≤ (b0 : Int) := by omega
      clear hn
      go_enter Try.func4, Try.ntmps4
      go_wp2_with fail
      refine (guard_small s _ _ hs).mono ?_
      rintro e wx ⟨rfl, rfl⟩
      go_wp2_with fail
      refine (quote_walk s _ hs).mono ?_
      rintro e w1 ⟨rfl, b1⟩
      have HB1 : Hid (Below wx.heap.size wx w1) := b1
      clear b1
      obtain ⟨Q, eQ⟩ : ∃ Q : ByteArray, Q = quoteB s := ⟨_, rfl⟩
      rw [show (⟨(quote s).toArray⟩ : ByteArray) = Q from eQ.symm]
      have HQ : Hid (Q = quoteB s) := eQ
      clear eQ
      go_wp2_with fail
      refine (quote_walk (s.extract 0 i) _ (by rw [head_size s i hi]; omega)).mono ?_
      rintro e w2 ⟨rfl, b2⟩
      have HB2 : Hid (Below wx.heap.size wx w2) := HB1.out.trans (b2.mono HB1.out.size)
      clear b2
      obtain ⟨QA, eQ⟩ : ∃ QA : ByteArray, QA = quoteB (s.extract 0 i) := ⟨_, rfl⟩
      rw [show (⟨(quote (s.extract 0 i)).toArray⟩ : ByteArray) = QA from eQ.symm]
      have HQA : Hid (QA = quoteB (s.extract 0 i)) := eQ
      clear eQ
      go_wp2_with fail
      refine (quote_walk (s.extract i s.size) _ (by rw [Lib.tail_size]; omega)).mono ?_
      rintro e w3 ⟨rfl, b3⟩
      have HB3 : Hid (Below wx.heap.size wx w3) := HB2.out.trans (b3.mono HB2.out.size)
      clear b3
      obtain ⟨QB, eQ⟩ : ∃ QB : ByteArray, QB = quoteB (s.extract i s.size) := ⟨_, rfl⟩
      rw [show (⟨(quote (s.extract i s.size)).toArray⟩ : ByteArray) = QB from eQ.symm]
      have HQB : Hid (QB = quoteB (s.extract i s.size)) := eQ
      clear eQ
      clear HB1 HB2
      obtain ⟨q1, q2⟩ : 2 ≤ Q.size ∧ Q.size ≤ 5242882 := by rw [HQ.out]; exact quoteB_sizes s hs
      obtain ⟨qa1, qa2⟩ : 2 ≤ QA.size ∧ QA.size ≤ 5242882 := by rw [HQA.out]; exact quoteB_sizes _ (by rw [head_size s i hi]; omega)
      obtain ⟨qb1, qb2⟩ : 2 ≤ QB.size ∧ QB.size ≤ 5242882 := by rw [HQB.out]; exact quoteB_sizes _ (by rw [Lib.tail_size]; omega)
      have HJ : Hid (QA.extract 0 (QA.size - 1) ++ QB.extract 1 QB.size = Q) := by rw [HQA.out, HQB.out, HQ.out]; exact quoteB_join s i hi HC.out
      have fa : (QA[0]'(by omega)).toNat = 34 := by have := quoteB_first (s.extract 0 i); simp only [← HQA.out] at this; exact this (by omega)
      have fb : (QB[0]'(by omega)).toNat = 34 := by have := quoteB_first (s.extract i s.size); simp only [← HQB.out] at this; exact this (by omega)
      have la : (QA[QA.size - 1]'(by omega)).toNat = 34 := by have := quoteB_last (s.extract 0 i) (QA.size - 1); simp only [← HQA.out] at this; exact this (by omega) (by omega)
      have lb : (QB[QB.size - 1]'(by omega)).toNat = 34 := by have := quoteB_last (s.extract i s.size) (QB.size - 1); simp only [← HQB.out] at this; exact this (by omega) (by omega)
      go_wp2_with fail
      clear fa fb la lb
      have hj := HJ.out
      have hqq : (Q.toList == Q.toList) = true := by simp
      go_quiet (fail)
      have HB4 : Hid (Below wx.heap.size wx (w3.drewN nq)) := below_drewN HB3.out nq
      go_wp2_with fail
      refine (printable_any s _ hs).mono ?_
      rintro e w4 ⟨⟨r, rfl, hr⟩, rfl⟩
      cases r with
      | false =>
        go_wp2
        go_ret
        exact ⟨rfl, HB4.out⟩
      | true =>
        have HPR : Hid (Printable s) := hr rfl
        clear hr
        go_wp2_with fail
        refine (ascii_walk s _ hs HPR.out).mono ?_
        rintro e w5 ⟨rfl, b5⟩
        have HB5 : Hid (Below wx.heap.size wx w5) := HB4.out.trans (b5.mono HB4.out.size)
        clear b5
        rw [show (⟨(quote s).toArray⟩ : ByteArray) = Q from HQ.out.symm]
        go_wp2
        go_ret
        exact ⟨rfl, HB5.out⟩
  · have hli : (s.size : Int) ≤ (i : Int) := by omega
    go_enter Try.func4, Try.ntmps4
    go_wp2_with fail
    refine (guard_small s _ _ hs).mono ?_
    rintro e wx ⟨rfl, rfl⟩
    go_wp2_with fail
    refine (quote_walk s _ hs).mono ?_
    rintro e w1 ⟨rfl, b1⟩
    have HB1 : Hid (Below wx.heap.size wx w1) := b1
    clear b1
    obtain ⟨Q, eQ⟩ : ∃ Q : ByteArray, Q = quoteB s := ⟨_, rfl⟩
    rw [show (⟨(quote s).toArray⟩ : ByteArray) = Q from eQ.symm]
    have HQ : Hid (Q = quoteB s) := eQ
    clear eQ
    go_wp2_with fail
    refine (quote_walk (s.extract 0 i) _ (by rw [head_size s i hi]; omega)).mono ?_
    rintro e w2 ⟨rfl, b2⟩
    have HB2 : Hid (Below wx.heap.size wx w2) := HB1.out.trans (b2.mono HB1.out.size)
    clear b2
    obtain ⟨QA, eQ⟩ : ∃ QA : ByteArray, QA = quoteB (s.extract 0 i) := ⟨_, rfl⟩
    rw [show (⟨(quote (s.extract 0 i)).toArray⟩ : ByteArray) = QA from eQ.symm]
    have HQA : Hid (QA = quoteB (s.extract 0 i)) := eQ
    clear eQ
    go_wp2_with fail
    refine (quote_walk (s.extract i s.size) _ (by rw [Lib.tail_size]; omega)).mono ?_
    rintro e w3 ⟨rfl, b3⟩
    have HB3 : Hid (Below wx.heap.size wx w3) := HB2.out.trans (b3.mono HB2.out.size)
    clear b3
    obtain ⟨QB, eQ⟩ : ∃ QB : ByteArray, QB = quoteB (s.extract i s.size) := ⟨_, rfl⟩
    rw [show (⟨(quote (s.extract i s.size)).toArray⟩ : ByteArray) = QB from eQ.symm]
    have HQB : Hid (QB = quoteB (s.extract i s.size)) := eQ
    clear eQ
    clear HB1 HB2
    obtain ⟨q1, q2⟩ : 2 ≤ Q.size ∧ Q.size ≤ 5242882 := by rw [HQ.out]; exact quoteB_sizes s hs
    obtain ⟨qa1, qa2⟩ : 2 ≤ QA.size ∧ QA.size ≤ 5242882 := by rw [HQA.out]; exact quoteB_sizes _ (by rw [head_size s i hi]; omega)
    obtain ⟨qb1, qb2⟩ : 2 ≤ QB.size ∧ QB.size ≤ 5242882 := by rw [HQB.out]; exact quoteB_sizes _ (by rw [Lib.tail_size]; omega)
    have HJ : Hid (QA.extract 0 (QA.size - 1) ++ QB.extract 1 QB.size = Q) := by rw [HQA.out, HQB.out, HQ.out]; exact quoteB_join s i hi HC.out
    have fa : (QA[0]'(by omega)).toNat = 34 := by have := quoteB_first (s.extract 0 i); simp only [← HQA.out] at this; exact this (by omega)
    have fb : (QB[0]'(by omega)).toNat = 34 := by have := quoteB_first (s.extract i s.size); simp only [← HQB.out] at this; exact this (by omega)
    have la : (QA[QA.size - 1]'(by omega)).toNat = 34 := by have := quoteB_last (s.extract 0 i) (QA.size - 1); simp only [← HQA.out] at this; exact this (by omega) (by omega)
    have lb : (QB[QB.size - 1]'(by omega)).toNat = 34 := by have := quoteB_last (s.extract i s.size) (QB.size - 1); simp only [← HQB.out] at this; exact this (by omega) (by omega)
    go_wp2_with fail
    clear fa fb la lb
    have hj := HJ.out
    have hqq : (Q.toList == Q.toList) = true := by simp
    go_quiet (fail)
    have HB4 : Hid (Below wx.heap.size wx (w3.drewN nq)) := below_drewN HB3.out nq
    go_wp2_with fail
    refine (printable_any s _ hs).mono ?_
    rintro e w4 ⟨⟨r, rfl, hr⟩, rfl⟩
    cases r with
    | false =>
      go_wp2
      go_ret
      exact ⟨rfl, HB4.out⟩
    | true =>
      have HPR : Hid (Printable s) := hr rfl
      clear hr
      go_wp2_with fail
      refine (ascii_walk s _ hs HPR.out).mono ?_
      rintro e w5 ⟨rfl, b5⟩
      have HB5 : Hid (Below wx.heap.size wx w5) := HB4.out.trans (b5.mono HB4.out.size)
      clear b5
      rw [show (⟨(quote s).toArray⟩ : ByteArray) = Q from HQ.out.symm]
      go_wp2
      go_ret
      exact ⟨rfl, HB5.out⟩

set_option maxHeartbeats 1600000 in
theorem walk (a0 : ByteArray) (a1 : Int) (w0 : a0.size ≤ maxLen) (w1 : (Lit.int .i64 a1).wf = true) (w : World) :
    Calls Try.prog 4 #[.string a0, .int .i64 a1] w fun e w' => e = .returned (.bool true) ∧ Below w.heap.size w w' := by
  by_cases hs : a0.size ≤ 1048576
  · by_cases h0 : a1 < 0
    · go_enter Try.func4, Try.ntmps4
      go_wp2_with fail
      refine (guard_small a0 _ _ hs).mono ?_
      rintro e wx ⟨rfl, rfl⟩
      go_wp2
      go_ret
      exact ⟨rfl, Below.refl _ _⟩
    obtain ⟨i, rfl⟩ : ∃ i : Nat, a1 = (i : Int) := ⟨a1.toNat, by omega⟩
    clear h0
    by_cases hi : i ≤ a0.size
    · by_cases hb : i < a0.size ∧ 128 ≤ byteAt a0 i ∧ byteAt a0 i ≤ 191
      · obtain ⟨hlt, hb1, hb2⟩ := hb
        have hli : (i : Int) < (a0.size : Int) := by omega
        obtain ⟨b0, eb⟩ : ∃ b, b = byteAt a0 i := ⟨_, rfl⟩
        have h0 : (a0[i]'hlt).toNat = b0 := by rw [eb]; exact byteAt_eq a0 i hlt
        rw [← eb] at hb1 hb2
        clear eb
        have hb1i : (128 : Int) ≤ (b0 : Int) := by omega
        have hb2i : (b0 : Int) ≤ 191 := by omega
        go_enter Try.func4, Try.ntmps4
        go_wp2_with fail
        refine (guard_small a0 _ _ hs).mono ?_
        rintro e wx ⟨rfl, rfl⟩
        go_wp2
        go_ret
        exact ⟨rfl, Below.refl _ _⟩
      · exact walk_cut a0 i w hs hi (fun h => fun h2 => hb ⟨h, h2⟩)
    · have hii : (a0.size : Int) < (i : Int) := by omega
      go_enter Try.func4, Try.ntmps4
      go_wp2_with fail
      refine (guard_small a0 _ _ hs).mono ?_
      rintro e wx ⟨rfl, rfl⟩
      go_wp2
      go_ret
      exact ⟨rfl, Below.refl _ _⟩
  · go_enter Try.func4, Try.ntmps4
    go_wp2_with fail
    refine (guard_big a0 _ _ w0 (by omega)).mono ?_
    rintro e wx ⟨rfl, rfl⟩
    go_wp2
    go_ret
    exact ⟨rfl, Below.refl _ _⟩

end fnQuoteJoinsAtRuneBoundary
end Go.Proofs.Qxb6627869a
