/-
  The walk of FnProperPrefixByLastCut.
-/
import Derived.Test.Qxb6627756aParts
namespace Go.Proofs.Qxb6627756a
open Go.RowKit

theorem pp_nil (p : List ByteArray) : pp p [] = false := pp_ge (by simp)
theorem pp_cut (p q : List ByteArray) (h : 0 < q.length) : pp p q = (pp p (q.take (q.length - 1)) || same p (q.take (q.length - 1))) := by
  rw [Bool.eq_iff_iff]
  simp only [pp, same, Bool.and_eq_true, Bool.or_eq_true, decide_eq_true_eq, List.take_take, List.length_take]
  constructor
  · rintro ⟨h1, h2⟩
    by_cases h3 : p.length < min (q.length - 1) q.length
    · exact .inl ⟨h3, by rw [show min p.length (q.length - 1) = p.length by omega]; exact h2⟩
    · refine .inr ?_
      rw [show q.length - 1 = p.length by omega]; exact h2.symm
  · rintro (⟨h1, h2⟩ | h1)
    · exact ⟨by omega, by rw [show min p.length (q.length - 1) = p.length by omega] at h2; exact h2⟩
    · have hl : p.length = q.length - 1 := by rw [h1]; simp
      exact ⟨by omega, by rw [hl]; exact h1.symm⟩

theorem view_head {B : Nat} {w : World} {a : Option Addr} {n m : Nat} {ss : List ByteArray} (h : ViewB B w a n ss) (hm : m ≤ n) : ViewB B w a m (ss.take m) := by
  obtain ⟨h1, h2⟩ := h
  refine ⟨by simp; omega, ?_⟩
  rcases h2 with h2 | ⟨b, off, h2, hlt, h3⟩
  · exact .inl (by omega)
  · exact .inr ⟨b, off, h2, hlt, fun i hi => by rw [h3 i (by omega)]; simp [List.getD, hi]⟩

set_option maxHeartbeats 3200000 in
theorem lastcut_walk (a1 a2 : Option Addr) (n1 n2 c1 c2 : Nat) (ps qs : List ByteArray) (w : World) (hm1 : n1 ≤ 9223372036854775807) (hm2 : n2 ≤ 9223372036854775807)
    (h1 : ViewB w.heap.size w a1 n1 ps) (h2 : ViewB w.heap.size w a2 n2 qs) (k1 : a1 = none → n1 = 0 ∧ c1 = 0) (k2 : a2 = none → n2 = 0 ∧ c2 = 0) :
    Calls Try.prog 4 #[.slice a1 n1 c1, .slice a2 n2 c2] w fun e w' => e = .returned (.bool true) ∧ Below w.heap.size w w' := by
  have H1 : Hid (ViewB w.heap.size w a1 n1 ps) := h1
  have H2 : Hid (ViewB w.heap.size w a2 n2 qs) := h2
  have K1 : Hid (a1 = none → n1 = 0 ∧ c1 = 0) := k1
  have K2 : Hid (a2 = none → n2 = 0 ∧ c2 = 0) := k2
  clear h1 h2 k1 k2
  go_enter Try.func4, Try.ntmps4
  go_wp2_with fail
  refine (bytes_any8 a1 a2 n1 n2 c1 c2 w hm1 hm2 H1.out.view.strs H2.out.view.strs).mono ?_
  rintro e w' ⟨⟨r, rfl, hr⟩, hw⟩
  obtain rfl := hw.symm
  cases r
  · go_wp2
    go_ret
    exact ⟨rfl, Below.refl _ _⟩
  have hsum : n1 + n2 ≤ 1048576 := hr rfl
  clear hr hm1 hm2
  go_wp2_with fail
  refine (size_any a1 a2 n1 n2 c1 c2 _ (by omega) (by omega) H1.out.view.strs H2.out.view.strs).mono ?_
  rintro e w' ⟨⟨r, rfl, hr⟩, hw⟩
  obtain rfl := hw.symm
  clear hr
  cases r
  · go_wp2
    go_ret
    exact ⟨rfl, Below.refl _ _⟩
  have hneq1 := fun w : World => run_neq_slice_nil_any (P := Try.prog) w 22 9 a1 n1 c1 0 0 Try.underlying22
  have hneq2 := fun w : World => run_neq_slice_nil_any (P := Try.prog) w 22 9 a2 n2 c2 0 0 Try.underlying22
  obtain ⟨i0, hi, hz0, hz1, hz2⟩ := info_parts info9
  have hsz : (Try.prog.info? 9).map (·.size) = some 1 := by rw [hi]; simp [hz1]
  have HSZ : Hid ((Try.prog.info? 9).map (·.size) = some 1) := hsz
  clear hsz hw
  obtain ⟨X, hX⟩ : ∃ X, X = ps.map Value.string := ⟨_, rfl⟩
  obtain ⟨Y, hY⟩ : ∃ Y, Y = qs.map Value.string := ⟨_, rfl⟩
  have HX : Hid (X = ps.map Value.string) := hX
  have HY : Hid (Y = qs.map Value.string) := hY
  clear hX hY
  cases a1 with
  | none =>
    obtain ⟨rfl, rfl⟩ := K1.out rfl
    have HP : Hid (ViewB w.heap.size w none 0 ps) := H1.out
    have HQ0 : Hid (ViewB w.heap.size w a2 n2 qs) := H2.out
    have HB : Hid (Below w.heap.size w w) := Below.refl _ _
    cases a2 with
    | none =>
      obtain ⟨rfl, rfl⟩ := K2.out rfl
      obtain rfl : qs = [] := List.eq_nil_of_length_eq_zero H2.out.1
      have HQ := HQ0
      clear HQ0 H1 H2 hneq1
      go_wp2_with fail
      refine (zzprefix_any _ _ _ _ _ _ ps [] _ (by omega) HP.out.view HQ.out.view).mono ?_
      rintro e w6 ⟨rfl, m1, rfl⟩
      rw [pp_nil]
      go_wp2
      go_ret
      exact ⟨rfl, below_drewN HB.out _⟩
    | some y =>
      go_wp2_with (at_make; refine wpList_make_full _ rfl (.tmp 29) (.tmp 29) 22 rfl w.heap.size 9 i0 (.string ByteArray.empty) 1 Try.underlying22 hi hz0 hz1 .i64 .i64 _ _ n2 rfl rfl rfl rfl ?b2qn ?b3qn ?b4qn ?_)
      case b2qn => rw [hz2]; omega
      case b3qn => unfold maxLen; omega
      case b4qn => exact Nat.le_refl _
      intro wmqn hown1 hgrow1
      obtain ⟨curqn, hcl, hcur⟩ := made_row hown1
      have hb1 : Below w.heap.size w wmqn := (Below.refl _ _).grown hgrow1 (Nat.le_refl _) (fun k h => by cases h)
      have HP1 : Hid (ViewB w.heap.size wmqn (some y) n2 qs) := HQ0.out.below hb1 (Nat.le_refl _)
      have HCL : Hid (curqn.length = n2) := hcl
      have HCUR : Hid (wmqn.heap[w.heap.size]? = some (.cells curqn.toArray 9 (0, 0))) := hcur
      have HO1 : Hid (Below w.heap.size w wmqn) := hb1
      clear hown1 hgrow1 hcl hcur hb1
      go_wp2_with (refine wpList_copy_splice rfl (.tmp 31) (.tmp 32) 22 22 rfl 9 Try.underlying22 HSZ.out (some ⟨w.heap.size, 0, none⟩) (some y) n2 n2 n2 c2 rfl rfl w.heap.size 0 curqn 9 HCUR.out Y ?d1qn ?d2qn ?d3qn ?d4qn w.heap.size w HO1.out (Nat.le_refl _) ?_)
      case d1qn => rw [HY.out]; simp [HP1.out.1]
      case d2qn => rw [HY.out]; intro h0; exact HP1.out.cells y rfl
      case d3qn => rw [HY.out]; simp [HP1.out.1, HCL.out]
      case d4qn => rw [HY.out]; exact strs_oneCell _
      intro wcqn HG2 hb2
      have hB2 : w.heap.size < wcqn.heap.size := Nat.lt_of_not_le fun h => by
        have := HG2.out
        rw [Array.getElem?_eq_none h] at this
        cases this
      have HVqn : Hid (ViewB wcqn.heap.size wcqn (some ⟨w.heap.size, 0, none⟩) n2 qs) := view_row HCL.out HQ0.out.1 hB2 (by rw [← HY.out]; exact HG2.out)
      have HBLqn : Hid (Below w.heap.size w wcqn) := hb2
      clear HP1 HCL HCUR HO1 HG2 hb2 hB2 curqn
      have HQ := HVqn
      have HPo := HP
      clear HP
      have HP : Hid (ViewB wcqn.heap.size wcqn _ _ ps) := (HPo.out.below HBLqn.out (Nat.le_refl _)).mono HBLqn.out.size
      have HBo := HB
      clear HB
      have HB : Hid (Below w.heap.size w wcqn) := HBo.out.trans (HBLqn.out.mono HBo.out.size)
      clear HVqn HBLqn HPo HBo HQ0 H1 hneq1 hneq2
      go_wp2_with fail
      refine (zzprefix_any _ _ _ _ _ _ ps qs _ (by omega) HP.out.view HQ.out.view).mono ?_
      rintro e w6 ⟨rfl, m1, rfl⟩
      by_cases hq0 : n2 = 0
      · subst hq0
        obtain rfl : qs = [] := List.eq_nil_of_length_eq_zero H2.out.1
        rw [pp_nil]
        go_wp2
        go_ret
        exact ⟨rfl, below_drewN HB.out _⟩
      have hq1 : 1 ≤ n2 := by omega
      have HC : Hid (pp ps qs = (pp ps (qs.take (n2 - 1)) || same ps (qs.take (n2 - 1)))) := by
        have := pp_cut ps qs (by rw [H2.out.1]; exact hq1)
        rw [H2.out.1] at this
        exact this
      have HH : Hid (ViewB wcqn.heap.size wcqn _ (n2 - 1) (qs.take (n2 - 1))) := view_head HQ.out (by omega)
      clear hq0
      obtain ⟨hs, ehs⟩ : ∃ hs, hs = qs.take (n2 - 1) := ⟨_, rfl⟩
      rw [← ehs] at HC HH
      clear ehs
      obtain ⟨r, er⟩ : ∃ r, r = pp ps qs := ⟨_, rfl⟩
      rw [← er] at HC ⊢
      clear er
      go_wp2_with fail
      refine (zzprefix_any _ _ _ _ _ _ ps hs _ (by omega) (HP.out.view.drewN m1) (HH.out.view.drewN m1)).mono ?_
      rintro e w7 ⟨rfl, m2, rfl⟩
      cases hb1 : pp ps hs with
      | true =>
        have hr : r = true := by rw [HC.out, hb1]; rfl
        subst hr
        clear hb1
        go_wp2
        go_ret
        exact ⟨rfl, below_drewN HB.out _⟩
      | false =>
        have HR : Hid (r = same ps hs) := by
          have := HC.out
          rw [hb1, Bool.false_or] at this
          exact this
        clear hb1 HC
        go_wp2_with fail
        refine (same_any _ _ _ _ _ _ ps hs _ (by omega) (HP.out.view.drewN (m1 + m2)) (HH.out.view.drewN (m1 + m2))).mono ?_
        rintro e w8 ⟨rfl, m3, rfl⟩
        rw [← HR.out]
        go_wp2
        go_ret
        exact ⟨rfl, below_drewN HB.out _⟩
  | some x =>
    go_wp2_with (at_make; refine wpList_make_full _ rfl (.tmp 20) (.tmp 20) 22 rfl w.heap.size 9 i0 (.string ByteArray.empty) 1 Try.underlying22 hi hz0 hz1 .i64 .i64 _ _ n1 rfl rfl rfl rfl ?b2p ?b3p ?b4p ?_)
    case b2p => rw [hz2]; omega
    case b3p => unfold maxLen; omega
    case b4p => exact Nat.le_refl _
    intro wmp hown1 hgrow1
    obtain ⟨curp, hcl, hcur⟩ := made_row hown1
    have hb1 : Below w.heap.size w wmp := (Below.refl _ _).grown hgrow1 (Nat.le_refl _) (fun k h => by cases h)
    have HP1 : Hid (ViewB w.heap.size wmp (some x) n1 ps) := H1.out.below hb1 (Nat.le_refl _)
    have HCL : Hid (curp.length = n1) := hcl
    have HCUR : Hid (wmp.heap[w.heap.size]? = some (.cells curp.toArray 9 (0, 0))) := hcur
    have HO1 : Hid (Below w.heap.size w wmp) := hb1
    clear hown1 hgrow1 hcl hcur hb1
    go_wp2_with (refine wpList_copy_splice rfl (.tmp 22) (.tmp 23) 22 22 rfl 9 Try.underlying22 HSZ.out (some ⟨w.heap.size, 0, none⟩) (some x) n1 n1 n1 c1 rfl rfl w.heap.size 0 curp 9 HCUR.out X ?d1p ?d2p ?d3p ?d4p w.heap.size w HO1.out (Nat.le_refl _) ?_)
    case d1p => rw [HX.out]; simp [HP1.out.1]
    case d2p => rw [HX.out]; intro h0; exact HP1.out.cells x rfl
    case d3p => rw [HX.out]; simp [HP1.out.1, HCL.out]
    case d4p => rw [HX.out]; exact strs_oneCell _
    intro wcp HG2 hb2
    have hB2 : w.heap.size < wcp.heap.size := Nat.lt_of_not_le fun h => by
      have := HG2.out
      rw [Array.getElem?_eq_none h] at this
      cases this
    have HVp : Hid (ViewB wcp.heap.size wcp (some ⟨w.heap.size, 0, none⟩) n1 ps) := view_row HCL.out H1.out.1 hB2 (by rw [← HX.out]; exact HG2.out)
    have HBLp : Hid (Below w.heap.size w wcp) := hb2
    clear HP1 HCL HCUR HO1 HG2 hb2 hB2 curp
    have HP := HVp
    have HQ0 : Hid (ViewB wcp.heap.size wcp a2 n2 qs) := (H2.out.below HBLp.out (Nat.le_refl _)).mono HBLp.out.size
    have HB : Hid (Below w.heap.size w wcp) := HBLp.out
    clear HVp HBLp
    cases a2 with
    | none =>
      obtain ⟨rfl, rfl⟩ := K2.out rfl
      obtain rfl : qs = [] := List.eq_nil_of_length_eq_zero H2.out.1
      have HQ := HQ0
      clear HQ0 H1 H2 hneq1
      go_wp2_with fail
      refine (zzprefix_any _ _ _ _ _ _ ps [] _ (by omega) HP.out.view HQ.out.view).mono ?_
      rintro e w6 ⟨rfl, m1, rfl⟩
      rw [pp_nil]
      go_wp2
      go_ret
      exact ⟨rfl, below_drewN HB.out _⟩
    | some y =>
      go_wp2_with (at_make; refine wpList_make_full _ rfl (.tmp 29) (.tmp 29) 22 rfl wcp.heap.size 9 i0 (.string ByteArray.empty) 1 Try.underlying22 hi hz0 hz1 .i64 .i64 _ _ n2 rfl rfl rfl rfl ?b2qs ?b3qs ?b4qs ?_)
      case b2qs => rw [hz2]; omega
      case b3qs => unfold maxLen; omega
      case b4qs => exact Nat.le_refl _
      intro wmqs hown1 hgrow1
      obtain ⟨curqs, hcl, hcur⟩ := made_row hown1
      have hb1 : Below wcp.heap.size wcp wmqs := (Below.refl _ _).grown hgrow1 (Nat.le_refl _) (fun k h => by cases h)
      have HP1 : Hid (ViewB wcp.heap.size wmqs (some y) n2 qs) := HQ0.out.below hb1 (Nat.le_refl _)
      have HCL : Hid (curqs.length = n2) := hcl
      have HCUR : Hid (wmqs.heap[wcp.heap.size]? = some (.cells curqs.toArray 9 (0, 0))) := hcur
      have HO1 : Hid (Below wcp.heap.size wcp wmqs) := hb1
      clear hown1 hgrow1 hcl hcur hb1
      go_wp2_with (refine wpList_copy_splice rfl (.tmp 31) (.tmp 32) 22 22 rfl 9 Try.underlying22 HSZ.out (some ⟨wcp.heap.size, 0, none⟩) (some y) n2 n2 n2 c2 rfl rfl wcp.heap.size 0 curqs 9 HCUR.out Y ?d1qs ?d2qs ?d3qs ?d4qs wcp.heap.size wcp HO1.out (Nat.le_refl _) ?_)
      case d1qs => rw [HY.out]; simp [HP1.out.1]
      case d2qs => rw [HY.out]; intro h0; exact HP1.out.cells y rfl
      case d3qs => rw [HY.out]; simp [HP1.out.1, HCL.out]
      case d4qs => rw [HY.out]; exact strs_oneCell _
      intro wcqs HG2 hb2
      have hB2 : wcp.heap.size < wcqs.heap.size := Nat.lt_of_not_le fun h => by
        have := HG2.out
        rw [Array.getElem?_eq_none h] at this
        cases this
      have HVqs : Hid (ViewB wcqs.heap.size wcqs (some ⟨wcp.heap.size, 0, none⟩) n2 qs) := view_row HCL.out HQ0.out.1 hB2 (by rw [← HY.out]; exact HG2.out)
      have HBLqs : Hid (Below wcp.heap.size wcp wcqs) := hb2
      clear HP1 HCL HCUR HO1 HG2 hb2 hB2 curqs
      have HQ := HVqs
      have HPo := HP
      clear HP
      have HP : Hid (ViewB wcqs.heap.size wcqs _ _ ps) := (HPo.out.below HBLqs.out (Nat.le_refl _)).mono HBLqs.out.size
      have HBo := HB
      clear HB
      have HB : Hid (Below w.heap.size w wcqs) := HBo.out.trans (HBLqs.out.mono HBo.out.size)
      clear HVqs HBLqs HPo HBo HQ0 H1 hneq1 hneq2
      go_wp2_with fail
      refine (zzprefix_any _ _ _ _ _ _ ps qs _ (by omega) HP.out.view HQ.out.view).mono ?_
      rintro e w6 ⟨rfl, m1, rfl⟩
      by_cases hq0 : n2 = 0
      · subst hq0
        obtain rfl : qs = [] := List.eq_nil_of_length_eq_zero H2.out.1
        rw [pp_nil]
        go_wp2
        go_ret
        exact ⟨rfl, below_drewN HB.out _⟩
      have hq1 : 1 ≤ n2 := by omega
      have HC : Hid (pp ps qs = (pp ps (qs.take (n2 - 1)) || same ps (qs.take (n2 - 1)))) := by
        have := pp_cut ps qs (by rw [H2.out.1]; exact hq1)
        rw [H2.out.1] at this
        exact this
      have HH : Hid (ViewB wcqs.heap.size wcqs _ (n2 - 1) (qs.take (n2 - 1))) := view_head HQ.out (by omega)
      clear hq0
      obtain ⟨hs, ehs⟩ : ∃ hs, hs = qs.take (n2 - 1) := ⟨_, rfl⟩
      rw [← ehs] at HC HH
      clear ehs
      obtain ⟨r, er⟩ : ∃ r, r = pp ps qs := ⟨_, rfl⟩
      rw [← er] at HC ⊢
      clear er
      go_wp2_with fail
      refine (zzprefix_any _ _ _ _ _ _ ps hs _ (by omega) (HP.out.view.drewN m1) (HH.out.view.drewN m1)).mono ?_
      rintro e w7 ⟨rfl, m2, rfl⟩
      cases hb1 : pp ps hs with
      | true =>
        have hr : r = true := by rw [HC.out, hb1]; rfl
        subst hr
        clear hb1
        go_wp2
        go_ret
        exact ⟨rfl, below_drewN HB.out _⟩
      | false =>
        have HR : Hid (r = same ps hs) := by
          have := HC.out
          rw [hb1, Bool.false_or] at this
          exact this
        clear hb1 HC
        go_wp2_with fail
        refine (same_any _ _ _ _ _ _ ps hs _ (by omega) (HP.out.view.drewN (m1 + m2)) (HH.out.view.drewN (m1 + m2))).mono ?_
        rintro e w8 ⟨rfl, m3, rfl⟩
        rw [← HR.out]
        go_wp2
        go_ret
        exact ⟨rfl, below_drewN HB.out _⟩

end Go.Proofs.Qxb6627756a
