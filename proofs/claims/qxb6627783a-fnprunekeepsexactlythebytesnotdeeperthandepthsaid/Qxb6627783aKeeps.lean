/-
  The walk of FnPruneKeepsExactlyTheBytesNotDeeperThanDepth.
-/
import Derived.Test.Qxb6627783aParts
namespace Go.Proofs.Qxb6627783a
open Go.RowKit

set_option maxHeartbeats 1600000 in
theorem keeps_walk (a : Option Addr) (n c : Nat) (d : Int) (zs : List Int) (w : World) (hn : n ≤ 9223372036854775807) (hd : -9223372036854775808 ≤ d ∧ d ≤ 9223372036854775807) (hv : ViewB w.heap.size w a n zs) (hnil : a = none → n = 0 ∧ c = 0) :
    Calls Try.prog 3 #[.slice a n c, .int .i64 d] w fun e w' => e = .returned (.bool true) ∧ Below w.heap.size w w' := by
  have HV : Hid (ViewB w.heap.size w a n zs) := hv
  have HNIL : Hid (a = none → n = 0 ∧ c = 0) := hnil
  have HR : Hid (∀ i, 0 ≤ zs.getD i 0 ∧ zs.getD i 0 ≤ 255) := hv.2.1
  clear hv hnil
  have HD : Hid (-9223372036854775808 ≤ d ∧ d ≤ 9223372036854775807) := hd
  clear hd
  go_enter Try.func3, Try.ntmps3
  go_wp2_with fail
  refine (bytes5 a n c d w hn).mono ?_
  rintro e w' ⟨⟨r, rfl, hr⟩, hw⟩
  obtain rfl := hw.symm
  cases r
  · go_wp2
    go_ret
    exact ⟨rfl, Below.refl _ _⟩
  have hsum : n ≤ 1048576 := hr rfl
  clear hr hn hw
  have hneq := fun w : World => run_neq_slice_nil_any (P := Try.prog) w 22 5 a n c 0 0 Try.underlying22
  obtain ⟨i0, hi, hz0, hz1, hz2⟩ := info_parts info5
  have hsz : (Try.prog.info? 5).map (·.size) = some 1 := by rw [hi]; simp [hz1]
  have HSZ : Hid ((Try.prog.info? 5).map (·.size) = some 1) := hsz
  clear hsz
  obtain ⟨X, hX⟩ : ∃ X, X = byteCells zs := ⟨_, rfl⟩
  have HX : Hid (X = byteCells zs) := hX
  clear hX
  cases a with
  | none =>
    obtain ⟨rfl, rfl⟩ := HNIL.out rfl
    go_wp2_with fail
    refine (pruneModel_any _ 0 _ d zs _ (by omega) HD.out HV.out).mono ?_
    rintro e w3 ⟨⟨ao1, cap1, rfl, hown3⟩, hb3⟩
    have HW1 : Hid (ViewB w3.heap.size w3 ao1 (M d zs 0).length (M d zs 0)) := (view_own (M_range HR.out) hown3).1
    have HB3 : Hid (Below w.heap.size w w3) := hb3
    have HV3 : Hid (ViewB w3.heap.size w3 none 0 zs) := (HV.out.below hb3 (Nat.le_refl _)).mono hb3.size
    clear hown3 hb3
    go_wp2_with fail
    refine (prune_any _ 0 _ d zs _ (by omega) (Nat.le_refl _) (fun _ => ⟨rfl, rfl⟩) HD.out HV3.out).mono ?_
    rintro e w4 ⟨⟨ao2, cap2, rfl, hown4⟩, hb4⟩
    have HW2 : Hid (ViewB w4.heap.size w4 ao2 (M d zs 0).length (M d zs 0)) := (view_own (M_range HR.out) hown4).1
    have HW3 : Hid (ViewB w3.heap.size w4 ao1 (M d zs 0).length (M d zs 0)) := HW1.out.below hb4 (Nat.le_refl _)
    have HB4 : Hid (Below w3.heap.size w3 w4) := hb4
    have hml : (M d zs 0).length ≤ 1048576 := by have := M_len d zs 0 (by rw [HV3.out.1]; exact Nat.le_refl _); omega
    clear hown4 hb4
    go_wp2_with fail
    refine (same_any _ _ _ _ _ (M d zs 0) _ hml HW2.out HW3.out).mono ?_
    rintro e w5 ⟨rfl, m, rfl⟩
    go_wp2
    go_ret
    exact ⟨rfl, below_drewN (HB3.out.trans (HB4.out.mono HB3.out.size)) _⟩
  | some x =>
    go_wp2_with (at_make; refine wpList_make_full _ rfl (.tmp 18) (.tmp 18) 22 rfl w.heap.size 5 i0 (.int .u8 0) 1 Try.underlying22 hi hz0 hz1 .i64 .i64 _ _ n rfl rfl rfl rfl ?b2 ?b3 ?b4 ?_)
    case b2 => rw [hz2]; omega
    case b3 => unfold maxLen; omega
    case b4 => exact Nat.le_refl _
    intro w1 hown1 hgrow1
    obtain ⟨cur, hcl, hcur⟩ := made_row hown1
    have hb1 : Below w.heap.size w w1 := (Below.refl _ _).grown hgrow1 (Nat.le_refl _) (fun k h => by cases h)
    have HP1 : Hid (ViewB w.heap.size w1 (some x) n zs) := HV.out.below hb1 (Nat.le_refl _)
    have HCL : Hid (cur.length = n) := hcl
    have HCUR : Hid (w1.heap[w.heap.size]? = some (.cells cur.toArray 5 (0, 0))) := hcur
    have HO1 : Hid (Below w.heap.size w w1) := hb1
    clear hown1 hgrow1 hcl hcur hb1
    go_wp2_with (refine wpList_copy_splice rfl (.tmp 20) (.tmp 21) 22 22 rfl 5 Try.underlying22 HSZ.out (some ⟨w.heap.size, 0, none⟩) (some x) n n n c rfl rfl w.heap.size 0 cur 5 HCUR.out X ?d1 ?d2 ?d3 ?d4 w.heap.size w HO1.out (Nat.le_refl _) ?_)
    case d1 => rw [HX.out]; simp [byteCells, HP1.out.1]
    case d2 => rw [HX.out]; intro h0; exact HP1.out.cells x rfl
    case d3 => rw [HX.out]; simp [byteCells, HP1.out.1, HCL.out]
    case d4 => rw [HX.out]; exact byteCells_one _
    intro w2 HG2 hb2
    have hB2 : w.heap.size < w2.heap.size := Nat.lt_of_not_le fun h => by
      have := HG2.out
      rw [Array.getElem?_eq_none h] at this
      cases this
    have HVc : Hid (ViewB w2.heap.size w2 (some ⟨w.heap.size, 0, none⟩) n zs) := view_row HCL.out HV.out.1 HV.out.2.1 hB2 (by rw [← HX.out]; exact HG2.out)
    have HB2 : Hid (Below w.heap.size w w2) := hb2
    clear HP1 HCL HCUR HO1 HG2 hb2 hB2 hneq
    go_wp2_with fail
    refine (pruneModel_any _ n _ d zs _ (by omega) HD.out HVc.out).mono ?_
    rintro e w3 ⟨⟨ao1, cap1, rfl, hown3⟩, hb3⟩
    have HW1 : Hid (ViewB w3.heap.size w3 ao1 (M d zs n).length (M d zs n)) := (view_own (M_range HR.out) hown3).1
    have HB3 : Hid (Below w2.heap.size w2 w3) := hb3
    have HV3 : Hid (ViewB w3.heap.size w3 (some ⟨w.heap.size, 0, none⟩) n zs) := (HVc.out.below hb3 (Nat.le_refl _)).mono hb3.size
    clear hown3 hb3
    go_wp2_with fail
    refine (prune_any _ n _ d zs _ (by omega) (Nat.le_refl _) (fun h => by cases h) HD.out HV3.out).mono ?_
    rintro e w4 ⟨⟨ao2, cap2, rfl, hown4⟩, hb4⟩
    have HW2 : Hid (ViewB w4.heap.size w4 ao2 (M d zs n).length (M d zs n)) := (view_own (M_range HR.out) hown4).1
    have HW3 : Hid (ViewB w3.heap.size w4 ao1 (M d zs n).length (M d zs n)) := HW1.out.below hb4 (Nat.le_refl _)
    have HB4 : Hid (Below w3.heap.size w3 w4) := hb4
    have hml : (M d zs n).length ≤ 1048576 := by have := M_len d zs n (by rw [HV3.out.1]; exact Nat.le_refl _); omega
    clear hown4 hb4
    go_wp2_with fail
    refine (same_any _ _ _ _ _ (M d zs n) _ hml HW2.out HW3.out).mono ?_
    rintro e w5 ⟨rfl, m, rfl⟩
    go_wp2
    go_ret
    exact ⟨rfl, below_drewN (HB2.out.trans ((HB3.out.trans (HB4.out.mono HB3.out.size)).mono HB2.out.size)) _⟩

end Go.Proofs.Qxb6627783a
