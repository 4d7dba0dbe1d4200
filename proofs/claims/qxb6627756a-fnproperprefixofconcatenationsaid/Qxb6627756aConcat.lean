/-
  The walk of FnProperPrefixOfConcatenation.
-/
import Derived.Test.Qxb6627756aParts
namespace Go.Proofs.Qxb6627756a
open Go.RowKit

theorem pp_concat (p r : List ByteArray) : pp p (p ++ r) = decide (0 < r.length) := by
  simp [pp]
theorem pp_back (p r : List ByteArray) : pp (p ++ r) p = false := pp_ge (by simp)

set_option maxHeartbeats 1600000 in
theorem concat_walk (a1 a2 : Option Addr) (n1 n2 c1 c2 : Nat) (ps rs : List ByteArray) (w : World) (hm1 : n1 ≤ 9223372036854775807) (hm2 : n2 ≤ 9223372036854775807)
    (h1 : ViewB w.heap.size w a1 n1 ps) (h2 : ViewB w.heap.size w a2 n2 rs) (k1 : a1 = none → n1 = 0 ∧ c1 = 0) (k2 : a2 = none → n2 = 0 ∧ c2 = 0) :
    Calls Try.prog 3 #[.slice a1 n1 c1, .slice a2 n2 c2] w fun e w' => e = .returned (.bool true) ∧ Below w.heap.size w w' := by
  have H1 : Hid (ViewB w.heap.size w a1 n1 ps) := h1
  have H2 : Hid (ViewB w.heap.size w a2 n2 rs) := h2
  have K1 : Hid (a1 = none → n1 = 0 ∧ c1 = 0) := k1
  have K2 : Hid (a2 = none → n2 = 0 ∧ c2 = 0) := k2
  clear h1 h2 k1 k2
  go_enter Try.func3, Try.ntmps3
  go_wp2_with fail
  refine (bytes_any5 a1 a2 n1 n2 c1 c2 w hm1 hm2 H1.out.view.strs H2.out.view.strs).mono ?_
  rintro e w' ⟨⟨r, rfl, hr⟩, hw⟩
  obtain rfl := hw.symm
  cases r
  · go_wp2
    go_ret
    exact ⟨rfl, Below.refl _ _⟩
  have hsum : n1 + n2 ≤ 1048576 := hr rfl
  clear hr hm1 hm2
  go_wp2_with fail
  refine (size_any a1 a2 n1 n2 c1 c2 _ (by omega) (by omega) H1.out.view.strs H2.out.view.strs).mono ?_
  rintro e w' ⟨⟨r, rfl, hr⟩, hw⟩
  obtain rfl := hw.symm
  clear hr
  cases r
  · go_wp2
    go_ret
    exact ⟨rfl, Below.refl _ _⟩
  have hneq := fun w : World => run_neq_slice_nil_any (P := Try.prog) w 22 9 a1 n1 c1 0 0 Try.underlying22
  obtain ⟨i0, hi, hz0, hz1, hz2⟩ := info_parts info9
  have hsz : (Try.prog.info? 9).map (·.size) = some 1 := by rw [hi]; simp [hz1]
  have HSZ : Hid ((Try.prog.info? 9).map (·.size) = some 1) := hsz
  clear hsz
  obtain ⟨X, hX⟩ : ∃ X, X = ps.map Value.string := ⟨_, rfl⟩
  obtain ⟨Y, hY⟩ : ∃ Y, Y = rs.map Value.string := ⟨_, rfl⟩
  have HX : Hid (X = ps.map Value.string) := hX
  have HY : Hid (Y = rs.map Value.string) := hY
  clear hX hY
  cases a1 with
  | none =>
    obtain ⟨rfl, rfl⟩ := K1.out rfl
    have HP2 : Hid (ViewB w.heap.size w none 0 ps) := H1.out
    have HR2 : Hid (ViewB w.heap.size w a2 n2 rs) := H2.out
    clear H1 H2 K1
    go_wp2_with (at_make; refine wpList_make_own _ rfl (.const (.int .i64 0)) (.tmp 30) 22 rfl w.heap.size 9 i0 (.string ByteArray.empty) 1 Try.underlying22 hi hz0 hz1 .i64 .i64 _ n2 rfl rfl ?ne0 ?ne1 ?ne2 ?ne3 ?_)
    case ne0 => omega
    case ne1 => rw [hz2]; omega
    case ne2 => unfold maxLen; omega
    case ne3 => exact Nat.le_refl _
    intro w3 hown3 hgrow3
    have hb3 : Below w.heap.size w w3 := (Below.refl _ _).grown hgrow3 (Nat.le_refl _) (fun k h => by cases h)
    have HO3 : Hid (w3.ownsRow w.heap.size 9 1 (.slice (some ⟨w.heap.size, 0, none⟩) 0 n2) 0 []) := hown3
    have HB3 : Hid (Below w.heap.size w w3) := hb3
    clear hown3 hgrow3 hb3
    go_wp2_with (at_builtin; refine wpList_append_fits_any _ rfl (.tmp 32) (.tmp 33) 22 rfl w.heap.size 9 i0 1 Try.underlying22 hi hz1 w.heap.size 0 n2 [] rfl HO3.out none 0 0 X rfl ?nf1 (fun _ => ⟨rfl, rfl⟩) ?nf3 ?nf4 ?nf5 ?_)
    case nf1 => rw [HX.out]; simp [HP2.out.1]
    case nf3 => rw [HX.out]; exact (HP2.out.below HB3.out (Nat.le_refl _)).cells
    case nf4 => rw [HX.out]; exact strs_oneCell _
    case nf5 => omega
    intro w4 hown4 hgrow4
    have hb4 : Below w.heap.size w w4 := HB3.out.grown hgrow4 HB3.out.size (fun k h => by cases h; exact Nat.le_refl _)
    have HO4 : Hid (w4.ownsRow w.heap.size 9 1 (.slice (some ⟨w.heap.size, 0, none⟩) 0 n2) 0 X) := hown4
    have HB4 : Hid (Below w.heap.size w w4) := hb4
    clear hown4 hgrow4 hb4 HO3 HB3
    go_wp2_with (at_builtin; refine wpList_append_fits_any _ rfl (.tmp 35) (.tmp 36) 22 rfl w.heap.size 9 i0 1 Try.underlying22 hi hz1 w.heap.size 0 n2 X rfl HO4.out a2 n2 c2 Y rfl ?ng1 ?ng2 ?ng3 ?ng4 ?ng5 ?_)
    case ng1 => rw [HY.out]; simp [HR2.out.1]
    case ng2 => exact K2.out
    case ng3 => rw [HY.out]; exact (HR2.out.below HB4.out (Nat.le_refl _)).cells
    case ng4 => rw [HY.out]; exact strs_oneCell _
    case ng5 => omega
    intro w5 hown5 hgrow5
    have hb5 : Below w.heap.size w w5 := HB4.out.grown hgrow5 HB4.out.size (fun k h => by cases h; exact Nat.le_refl _)
    have HQ5 : Hid (ViewB w5.heap.size w5 (some ⟨w.heap.size, 0, none⟩) n2 (ps ++ rs)) :=
      view_own (by simp [HP2.out.1, HR2.out.1]) (hown5.lt _ rfl).2 (by rw [List.map_append, ← HX.out, ← HY.out]; exact hown5)
    have HP5 : Hid (ViewB w.heap.size w5 none 0 ps) := HP2.out.below hb5 (Nat.le_refl _)
    have HB5 : Hid (Below w.heap.size w w5) := hb5
    clear hown5 hgrow5 hb5 HO4 HB4
    go_wp2_with fail
    refine (zzprefix_any none (some ⟨w.heap.size, 0, none⟩) 0 n2 0 n2 ps (ps ++ rs) w5 (by omega) HP5.out.view HQ5.out.view).mono ?_
    rintro e w6 ⟨rfl, m1, rfl⟩
    rw [pp_concat, HR2.out.1]
    go_wp2_with fail
    refine (zzprefix_any (some ⟨w.heap.size, 0, none⟩) none n2 0 n2 0 (ps ++ rs) ps (w5.drewN m1) (by omega) (HQ5.out.view.drewN _) (HP5.out.view.drewN _)).mono ?_
    rintro e w7 ⟨rfl, m2, rfl⟩
    rw [pp_back]
    go_wp2
    go_ret
    exact ⟨rfl, below_drewN HB5.out _⟩
  | some x =>
    go_wp2_with (at_make; refine wpList_make_full _ rfl (.tmp 20) (.tmp 20) 22 rfl w.heap.size 9 i0 (.string ByteArray.empty) 1 Try.underlying22 hi hz0 hz1 .i64 .i64 _ _ n1 rfl rfl rfl rfl ?b2 ?b3 ?b4 ?_)
    case b2 => rw [hz2]; omega
    case b3 => unfold maxLen; omega
    case b4 => exact Nat.le_refl _
    intro w1 hown1 hgrow1
    obtain ⟨cur, hcl, hcur⟩ := made_row hown1
    have hb1 : Below w.heap.size w w1 := (Below.refl _ _).grown hgrow1 (Nat.le_refl _) (fun k h => by cases h)
    have hB1 : w.heap.size < w1.heap.size := (hown1.lt _ rfl).2
    have P1 := H1.out.below hb1 (Nat.le_refl _)
    have HP1 : Hid (ViewB w.heap.size w1 (some x) n1 ps) := P1
    have HCL : Hid (cur.length = n1) := hcl
    have HCUR : Hid (w1.heap[w.heap.size]? = some (.cells cur.toArray 9 (0, 0))) := hcur
    have HO1 : Hid (Below w.heap.size w w1) := hb1
    clear hown1 hgrow1 hcl hcur hb1 P1
    go_wp2_with (refine wpList_copy_splice rfl (.tmp 22) (.tmp 23) 22 22 rfl 9 Try.underlying22 HSZ.out (some ⟨w.heap.size, 0, none⟩) (some x) n1 n1 n1 c1 rfl rfl w.heap.size 0 cur 9 HCUR.out X ?d1 ?d2 ?d3 ?d4 w.heap.size w HO1.out (Nat.le_refl _) ?_)
    case d1 => rw [HX.out]; simp [HP1.out.1]
    case d2 => rw [HX.out]; intro h0; exact HP1.out.cells x rfl
    case d3 => rw [HX.out]; simp [HP1.out.1, HCL.out]
    case d4 => rw [HX.out]; exact strs_oneCell _
    intro w2 HG2 hb2
    have hB2 : w.heap.size < w2.heap.size := Nat.lt_of_not_le fun h => by
      have := HG2.out
      rw [Array.getElem?_eq_none h] at this
      cases this
    have HP2 : Hid (ViewB w2.heap.size w2 (some ⟨w.heap.size, 0, none⟩) n1 ps) := view_row HCL.out H1.out.1 hB2 (by rw [← HX.out]; exact HG2.out)
    have HR2 : Hid (ViewB w2.heap.size w2 a2 n2 rs) := (H2.out.below hb2 (Nat.le_refl _)).mono hb2.size
    have HB2 : Hid (Below w.heap.size w w2) := hb2
    clear HP1 HCUR HO1 HG2 hb2 hneq
    go_wp2_with (at_make; refine wpList_make_own _ rfl (.const (.int .i64 0)) (.tmp 30) 22 rfl w2.heap.size 9 i0 (.string ByteArray.empty) 1 Try.underlying22 hi hz0 hz1 .i64 .i64 _ (n1 + n2) rfl rfl ?e0 ?e1 ?e2 ?e3 ?_)
    case e0 => omega
    case e1 => rw [hz2]; omega
    case e2 => unfold maxLen; omega
    case e3 => exact Nat.le_refl _
    intro w3 hown3 hgrow3
    have hb3 : Below w2.heap.size w2 w3 := (Below.refl _ _).grown hgrow3 (Nat.le_refl _) (fun k h => by cases h)
    have HO3 : Hid (w3.ownsRow w2.heap.size 9 1 (.slice (some ⟨w2.heap.size, 0, none⟩) 0 (n1 + n2)) 0 []) := hown3
    have HB3 : Hid (Below w2.heap.size w2 w3) := hb3
    clear hown3 hgrow3 hb3
    go_wp2_with (at_builtin; refine wpList_append_fits_any _ rfl (.tmp 32) (.tmp 33) 22 rfl w2.heap.size 9 i0 1 Try.underlying22 hi hz1 w2.heap.size 0 (n1 + n2) [] rfl HO3.out (some ⟨w.heap.size, 0, none⟩) n1 n1 X rfl ?f1 ?f2 ?f3 ?f4 ?f5 ?_)
    case f1 => rw [HX.out]; simp [HP2.out.1]
    case f2 => intro h; cases h
    case f3 => rw [HX.out]; exact (HP2.out.below HB3.out (Nat.le_refl _)).cells
    case f4 => rw [HX.out]; exact strs_oneCell _
    case f5 => omega
    intro w4 hown4 hgrow4
    have hb4 : Below w2.heap.size w2 w4 := HB3.out.grown hgrow4 HB3.out.size (fun k h => by cases h; exact Nat.le_refl _)
    have HO4 : Hid (w4.ownsRow w2.heap.size 9 1 (.slice (some ⟨w2.heap.size, 0, none⟩) n1 (n1 + n2)) n1 X) := hown4
    have HB4 : Hid (Below w2.heap.size w2 w4) := hb4
    clear hown4 hgrow4 hb4 HO3 HB3
    go_wp2_with (at_builtin; refine wpList_append_fits_any _ rfl (.tmp 35) (.tmp 36) 22 rfl w2.heap.size 9 i0 1 Try.underlying22 hi hz1 w2.heap.size n1 (n1 + n2) X rfl HO4.out a2 n2 c2 Y rfl ?g1 ?g2 ?g3 ?g4 ?g5 ?_)
    case g1 => rw [HY.out]; simp [HR2.out.1]
    case g2 => exact K2.out
    case g3 => rw [HY.out]; exact (HR2.out.below HB4.out (Nat.le_refl _)).cells
    case g4 => rw [HY.out]; exact strs_oneCell _
    case g5 => omega
    intro w5 hown5 hgrow5
    have hb5 : Below w2.heap.size w2 w5 := HB4.out.grown hgrow5 HB4.out.size (fun k h => by cases h; exact Nat.le_refl _)
    have HQ5 : Hid (ViewB w5.heap.size w5 (some ⟨w2.heap.size, 0, none⟩) (n1 + n2) (ps ++ rs)) :=
      view_own (by simp [HP2.out.1, HR2.out.1]) (hown5.lt _ rfl).2 (by rw [List.map_append, ← HX.out, ← HY.out]; exact hown5)
    have HP5 : Hid (ViewB w2.heap.size w5 (some ⟨w.heap.size, 0, none⟩) n1 ps) := HP2.out.below hb5 (Nat.le_refl _)
    have HB5 : Hid (Below w2.heap.size w2 w5) := hb5
    clear hown5 hgrow5 hb5 HO4 HB4
    go_wp2_with fail
    refine (zzprefix_any (some ⟨w.heap.size, 0, none⟩) (some ⟨w2.heap.size, 0, none⟩) n1 (n1 + n2) n1 (n1 + n2) ps (ps ++ rs) w5 (by omega) HP5.out.view HQ5.out.view).mono ?_
    rintro e w6 ⟨rfl, m1, rfl⟩
    rw [pp_concat, HR2.out.1]
    go_wp2_with fail
    refine (zzprefix_any (some ⟨w2.heap.size, 0, none⟩) (some ⟨w.heap.size, 0, none⟩) (n1 + n2) n1 (n1 + n2) n1 (ps ++ rs) ps (w5.drewN m1) (by omega) (HQ5.out.view.drewN _) (HP5.out.view.drewN _)).mono ?_
    rintro e w7 ⟨rfl, m2, rfl⟩
    rw [pp_back]
    go_wp2
    go_ret
    exact ⟨rfl, below_drewN (HB2.out.trans (HB5.out.mono HB2.out.size)) _⟩

end Go.Proofs.Qxb6627756a
