/-
  The walk of FnPruneTwiceIsPruneAtTheShallower.
-/
import Derived.Test.Qxb6627783aParts
namespace Go.Proofs.Qxb6627783a
open Go.RowKit

theorem shallow_range {a b : Int} (ha : -9223372036854775808 ≤ a ∧ a ≤ 9223372036854775807) (hb : -9223372036854775808 ≤ b ∧ b ≤ 9223372036854775807) : -9223372036854775808 ≤ shallow a b ∧ shallow a b ≤ 9223372036854775807 := by
  unfold shallow; (repeat' split) <;> assumption
theorem M_whole (d : Int) {zs : List Int} {n : Nat} (h : zs.length = n) : M d zs n = model d s0 zs := by
  unfold M; rw [List.take_of_length_le (by omega)]
theorem L_whole {zs : List Int} {n : Nat} (h : zs.length = n) : L zs n = mxl s0 0 zs := by
  unfold L; rw [List.take_of_length_le (by omega)]
theorem twice_at {a b : Int} {zs : List Int} {n : Nat} (h : zs.length = n) : M b (M a zs n) (M a zs n).length = M (shallow a b) zs n := by
  rw [M_whole b rfl, M_whole a h, M_whole _ h, twice_law]
theorem level_at {a : Int} {zs : List Int} {n : Nat} (h : zs.length = n) : (L (M a zs n) (M a zs n).length : Int) = if 0 ≤ a ∧ a < (L zs n : Int) then a + 1 else (L zs n : Int) := by
  rw [L_whole rfl, M_whole a h, L_whole h, level_law]
theorem cases4 (a b : Int) : a < 0 ∨ (0 ≤ a ∧ 0 ≤ b ∧ b < a) ∨ (0 ≤ a ∧ b < 0) ∨ (0 ≤ a ∧ 0 ≤ b ∧ a ≤ b) := by omega
theorem cases3 (a : Int) (l : Nat) : a < 0 ∨ (0 ≤ a ∧ a < (l : Int)) ∨ (0 ≤ a ∧ (l : Int) ≤ a) := by omega

set_option maxHeartbeats 6400000 in
theorem twice_walk (a : Option Addr) (n c : Nat) (d1 d2 : Int) (zs : List Int) (w : World) (hn : n ≤ 9223372036854775807) (hd1 : -9223372036854775808 ≤ d1 ∧ d1 ≤ 9223372036854775807) (hd2 : -9223372036854775808 ≤ d2 ∧ d2 ≤ 9223372036854775807)
    (hv : ViewB w.heap.size w a n zs) (hnil : a = none → n = 0 ∧ c = 0) :
    Calls Try.prog 4 #[.slice a n c, .int .i64 d1, .int .i64 d2] w fun e w' => e = .returned (.bool true) ∧ Below w.heap.size w w' := by
  have HV : Hid (ViewB w.heap.size w a n zs) := hv
  have HNIL : Hid (a = none → n = 0 ∧ c = 0) := hnil
  have HR : Hid (∀ i, 0 ≤ zs.getD i 0 ∧ zs.getD i 0 ≤ 255) := hv.2.1
  clear hv hnil
  have HD1 : Hid (-9223372036854775808 ≤ d1 ∧ d1 ≤ 9223372036854775807) := hd1
  have HD2 : Hid (-9223372036854775808 ≤ d2 ∧ d2 ≤ 9223372036854775807) := hd2
  clear hd1 hd2
  go_enter Try.func4, Try.ntmps4
  go_wp2_with fail
  refine (bytes9 a n c d1 d2 w hn).mono ?_
  rintro e w' ⟨⟨r, rfl, hr⟩, hw⟩
  obtain rfl := hw.symm
  cases r
  · go_wp2
    go_ret
    exact ⟨rfl, Below.refl _ _⟩
  have hsum : n ≤ 1048576 := hr rfl
  clear hr hn hw
  have hneq := fun w : World => run_neq_slice_nil_any (P := Try.prog) w 22 5 a n c 0 0 Try.underlying22
  obtain ⟨i0, hi, hz0, hz1, hz2⟩ := info_parts info5
  have hsz : (Try.prog.info? 5).map (·.size) = some 1 := by rw [hi]; simp [hz1]
  have HSZ : Hid ((Try.prog.info? 5).map (·.size) = some 1) := hsz
  clear hsz
  obtain ⟨X, hX⟩ : ∃ X, X = byteCells zs := ⟨_, rfl⟩
  have HX : Hid (X = byteCells zs) := hX
  clear hX
  cases a with
  | none =>
    obtain ⟨rfl, rfl⟩ := HNIL.out rfl
    obtain ⟨mm, emm⟩ : ∃ mm, mm = shallow d1 d2 := ⟨_, rfl⟩
    have HMM : Hid (mm = shallow d1 d2) := emm
    have HMD : Hid (-9223372036854775808 ≤ mm ∧ mm ≤ 9223372036854775807) := by unfold Hid; rw [emm]; exact shallow_range HD1.out HD2.out
    clear emm
    obtain ⟨Y, eY⟩ : ∃ Y, Y = M d1 zs 0 := ⟨_, rfl⟩
    have HY : Hid (Y = M d1 zs 0) := eY
    have HYr : Hid (∀ i, 0 ≤ Y.getD i 0 ∧ Y.getD i 0 ≤ 255) := by unfold Hid; rw [eY]; exact M_range HR.out
    have HYl : Y.length ≤ 0 := by rw [eY]; exact M_len d1 zs 0 (by rw [HV.out.1]; exact Nat.le_refl _)
    have HT : Hid (M d2 Y Y.length = M mm zs 0) := by unfold Hid; rw [eY, HMM.out]; exact twice_at (by rw [HV.out.1])
    have HL : Hid ((L Y Y.length : Int) = if 0 ≤ d1 ∧ d1 < (L zs 0 : Int) then d1 + 1 else (L zs 0 : Int)) := by unfold Hid; rw [eY]; exact level_at (by rw [HV.out.1])
    have HLn : L zs 0 ≤ 0 := L_le zs 0 (by rw [HV.out.1]; exact Nat.le_refl _)
    clear eY
    rcases cases4 d1 d2 with hp | hp | hp | hp
    · have hmv : mm = d2 := by rw [HMM.out]; unfold shallow; first | rw [if_pos (by omega)] | rw [if_neg (by omega), if_pos (by omega)] | rw [if_neg (by omega), if_neg (by omega)]
      obtain rfl := hmv.symm
      clear HMM
      go_wp2_with fail
      refine (prune_any _ 0 _ d1 zs _ (by omega) (Nat.le_refl _) (fun _ => ⟨rfl, rfl⟩) HD1.out HV.out).mono ?_
      rintro e w3 ⟨⟨ao1, cap1, rfl, hown3⟩, hb3⟩
      rw [← HY.out] at hown3 ⊢
      obtain ⟨hw1, hc1, hn1⟩ := view_own HYr.out hown3
      have HW1 : Hid (ViewB w3.heap.size w3 ao1 Y.length Y) := hw1
      have HN1 : Hid (ao1 = none → Y.length = 0 ∧ cap1 = 0) := hn1
      have HB3 : Hid (Below w.heap.size w w3) := hb3
      have HV3 : Hid (ViewB w3.heap.size w3 none 0 zs) := (HV.out.below hb3 (Nat.le_refl _)).mono hb3.size
      clear hown3 hb3 hw1 hn1
      go_wp2_with fail
      refine (prune_any ao1 Y.length cap1 d2 Y _ (by omega) hc1 HN1.out HD2.out HW1.out).mono ?_
      rintro e w4 ⟨⟨ao2, cap2, rfl, hown4⟩, hb4⟩
      rw [HT.out] at hown4 ⊢
      have HW2 : Hid (ViewB w4.heap.size w4 ao2 (M d2 zs 0).length (M d2 zs 0)) := (view_own (M_range HR.out) hown4).1
      have HB4 : Hid (Below w3.heap.size w3 w4) := hb4
      have HV4 : Hid (ViewB w4.heap.size w4 none 0 zs) := (HV3.out.below hb4 (Nat.le_refl _)).mono hb4.size
      have HW4 : Hid (ViewB w4.heap.size w4 ao1 Y.length Y) := (HW1.out.below hb4 (Nat.le_refl _)).mono hb4.size
      clear hown4 hb4
      go_wp2_with fail
      refine (prune_any _ 0 _ d2 zs _ (by omega) (Nat.le_refl _) (fun _ => ⟨rfl, rfl⟩) HMD.out HV4.out).mono ?_
      rintro e w5 ⟨⟨ao3, cap3, rfl, hown5⟩, hb5⟩
      have HW3 : Hid (ViewB w5.heap.size w5 ao3 (M d2 zs 0).length (M d2 zs 0)) := (view_own (M_range HR.out) hown5).1
      have HB5 : Hid (Below w4.heap.size w4 w5) := hb5
      have HV5 : Hid (ViewB w5.heap.size w5 none 0 zs) := (HV4.out.below hb5 (Nat.le_refl _)).mono hb5.size
      have HW5 : Hid (ViewB w4.heap.size w5 ao1 Y.length Y) := HW4.out.below hb5 (Nat.le_refl _)
      have HW6 : Hid (ViewB w4.heap.size w5 ao2 (M d2 zs 0).length (M d2 zs 0)) := HW2.out.below hb5 (Nat.le_refl _)
      have hml : (M d2 zs 0).length ≤ 1048576 := by have := M_len d2 zs 0 (by rw [HV5.out.1]; exact Nat.le_refl _); omega
      clear hown5 hb5
      go_wp2_with fail
      refine (same_any _ _ _ _ _ (M d2 zs 0) _ hml HW6.out HW3.out).mono ?_
      rintro e w6 ⟨rfl, m, rfl⟩
      go_wp2_with fail
      refine (maxLevel_any _ 0 _ zs _ (by omega) (HV5.out.drewN m)).mono ?_
      rintro e w7 ⟨rfl, hw7⟩
      obtain rfl := hw7.symm
      clear hw7
      obtain ⟨lv, elv⟩ : ∃ lv, lv = L zs 0 := ⟨_, rfl⟩
      rw [← elv] at HL HLn ⊢
      clear elv
      obtain ⟨ly, ely⟩ : ∃ ly, ly = L Y Y.length := ⟨_, rfl⟩
      rw [← ely] at HL
      have HLY : Hid (ly = L Y Y.length) := ely
      clear ely
      rcases cases3 d1 lv with hq | hq | hq
      · go_wp2_with fail
        refine (maxLevel_any _ Y.length _ Y _ (by omega) (HW5.out.drewN m)).mono ?_
        rintro e w8 ⟨rfl, hw8⟩
        obtain rfl := hw8.symm
        clear hw8
        rw [← HLY.out, HL.out.trans (if_neg (by omega))]
        go_wp2
        go_ret
        exact ⟨rfl, below_drewN (HB3.out.trans ((HB4.out.trans (HB5.out.mono HB4.out.size)).mono HB3.out.size)) _⟩
      · exfalso; omega
      · exfalso; omega
    · have hmv : mm = d2 := by rw [HMM.out]; unfold shallow; first | rw [if_pos (by omega)] | rw [if_neg (by omega), if_pos (by omega)] | rw [if_neg (by omega), if_neg (by omega)]
      obtain rfl := hmv.symm
      clear HMM
      go_wp2_with fail
      refine (prune_any _ 0 _ d1 zs _ (by omega) (Nat.le_refl _) (fun _ => ⟨rfl, rfl⟩) HD1.out HV.out).mono ?_
      rintro e w3 ⟨⟨ao1, cap1, rfl, hown3⟩, hb3⟩
      rw [← HY.out] at hown3 ⊢
      obtain ⟨hw1, hc1, hn1⟩ := view_own HYr.out hown3
      have HW1 : Hid (ViewB w3.heap.size w3 ao1 Y.length Y) := hw1
      have HN1 : Hid (ao1 = none → Y.length = 0 ∧ cap1 = 0) := hn1
      have HB3 : Hid (Below w.heap.size w w3) := hb3
      have HV3 : Hid (ViewB w3.heap.size w3 none 0 zs) := (HV.out.below hb3 (Nat.le_refl _)).mono hb3.size
      clear hown3 hb3 hw1 hn1
      go_wp2_with fail
      refine (prune_any ao1 Y.length cap1 d2 Y _ (by omega) hc1 HN1.out HD2.out HW1.out).mono ?_
      rintro e w4 ⟨⟨ao2, cap2, rfl, hown4⟩, hb4⟩
      rw [HT.out] at hown4 ⊢
      have HW2 : Hid (ViewB w4.heap.size w4 ao2 (M d2 zs 0).length (M d2 zs 0)) := (view_own (M_range HR.out) hown4).1
      have HB4 : Hid (Below w3.heap.size w3 w4) := hb4
      have HV4 : Hid (ViewB w4.heap.size w4 none 0 zs) := (HV3.out.below hb4 (Nat.le_refl _)).mono hb4.size
      have HW4 : Hid (ViewB w4.heap.size w4 ao1 Y.length Y) := (HW1.out.below hb4 (Nat.le_refl _)).mono hb4.size
      clear hown4 hb4
      go_wp2_with fail
      refine (prune_any _ 0 _ d2 zs _ (by omega) (Nat.le_refl _) (fun _ => ⟨rfl, rfl⟩) HMD.out HV4.out).mono ?_
      rintro e w5 ⟨⟨ao3, cap3, rfl, hown5⟩, hb5⟩
      have HW3 : Hid (ViewB w5.heap.size w5 ao3 (M d2 zs 0).length (M d2 zs 0)) := (view_own (M_range HR.out) hown5).1
      have HB5 : Hid (Below w4.heap.size w4 w5) := hb5
      have HV5 : Hid (ViewB w5.heap.size w5 none 0 zs) := (HV4.out.below hb5 (Nat.le_refl _)).mono hb5.size
      have HW5 : Hid (ViewB w4.heap.size w5 ao1 Y.length Y) := HW4.out.below hb5 (Nat.le_refl _)
      have HW6 : Hid (ViewB w4.heap.size w5 ao2 (M d2 zs 0).length (M d2 zs 0)) := HW2.out.below hb5 (Nat.le_refl _)
      have hml : (M d2 zs 0).length ≤ 1048576 := by have := M_len d2 zs 0 (by rw [HV5.out.1]; exact Nat.le_refl _); omega
      clear hown5 hb5
      go_wp2_with fail
      refine (same_any _ _ _ _ _ (M d2 zs 0) _ hml HW6.out HW3.out).mono ?_
      rintro e w6 ⟨rfl, m, rfl⟩
      go_wp2_with fail
      refine (maxLevel_any _ 0 _ zs _ (by omega) (HV5.out.drewN m)).mono ?_
      rintro e w7 ⟨rfl, hw7⟩
      obtain rfl := hw7.symm
      clear hw7
      obtain ⟨lv, elv⟩ : ∃ lv, lv = L zs 0 := ⟨_, rfl⟩
      rw [← elv] at HL HLn ⊢
      clear elv
      obtain ⟨ly, ely⟩ : ∃ ly, ly = L Y Y.length := ⟨_, rfl⟩
      rw [← ely] at HL
      have HLY : Hid (ly = L Y Y.length) := ely
      clear ely
      rcases cases3 d1 lv with hq | hq | hq
      · exfalso; omega
      · exfalso; omega
      · go_wp2_with fail
        refine (maxLevel_any _ Y.length _ Y _ (by omega) (HW5.out.drewN m)).mono ?_
        rintro e w8 ⟨rfl, hw8⟩
        obtain rfl := hw8.symm
        clear hw8
        rw [← HLY.out, HL.out.trans (if_neg (by omega))]
        go_wp2
        go_ret
        exact ⟨rfl, below_drewN (HB3.out.trans ((HB4.out.trans (HB5.out.mono HB4.out.size)).mono HB3.out.size)) _⟩
    · have hmv : mm = d1 := by rw [HMM.out]; unfold shallow; first | rw [if_pos (by omega)] | rw [if_neg (by omega), if_pos (by omega)] | rw [if_neg (by omega), if_neg (by omega)]
      obtain rfl := hmv.symm
      clear HMM
      go_wp2_with fail
      refine (prune_any _ 0 _ d1 zs _ (by omega) (Nat.le_refl _) (fun _ => ⟨rfl, rfl⟩) HD1.out HV.out).mono ?_
      rintro e w3 ⟨⟨ao1, cap1, rfl, hown3⟩, hb3⟩
      rw [← HY.out] at hown3 ⊢
      obtain ⟨hw1, hc1, hn1⟩ := view_own HYr.out hown3
      have HW1 : Hid (ViewB w3.heap.size w3 ao1 Y.length Y) := hw1
      have HN1 : Hid (ao1 = none → Y.length = 0 ∧ cap1 = 0) := hn1
      have HB3 : Hid (Below w.heap.size w w3) := hb3
      have HV3 : Hid (ViewB w3.heap.size w3 none 0 zs) := (HV.out.below hb3 (Nat.le_refl _)).mono hb3.size
      clear hown3 hb3 hw1 hn1
      go_wp2_with fail
      refine (prune_any ao1 Y.length cap1 d2 Y _ (by omega) hc1 HN1.out HD2.out HW1.out).mono ?_
      rintro e w4 ⟨⟨ao2, cap2, rfl, hown4⟩, hb4⟩
      rw [HT.out] at hown4 ⊢
      have HW2 : Hid (ViewB w4.heap.size w4 ao2 (M d1 zs 0).length (M d1 zs 0)) := (view_own (M_range HR.out) hown4).1
      have HB4 : Hid (Below w3.heap.size w3 w4) := hb4
      have HV4 : Hid (ViewB w4.heap.size w4 none 0 zs) := (HV3.out.below hb4 (Nat.le_refl _)).mono hb4.size
      have HW4 : Hid (ViewB w4.heap.size w4 ao1 Y.length Y) := (HW1.out.below hb4 (Nat.le_refl _)).mono hb4.size
      clear hown4 hb4
      go_wp2_with fail
      refine (prune_any _ 0 _ d1 zs _ (by omega) (Nat.le_refl _) (fun _ => ⟨rfl, rfl⟩) HMD.out HV4.out).mono ?_
      rintro e w5 ⟨⟨ao3, cap3, rfl, hown5⟩, hb5⟩
      have HW3 : Hid (ViewB w5.heap.size w5 ao3 (M d1 zs 0).length (M d1 zs 0)) := (view_own (M_range HR.out) hown5).1
      have HB5 : Hid (Below w4.heap.size w4 w5) := hb5
      have HV5 : Hid (ViewB w5.heap.size w5 none 0 zs) := (HV4.out.below hb5 (Nat.le_refl _)).mono hb5.size
      have HW5 : Hid (ViewB w4.heap.size w5 ao1 Y.length Y) := HW4.out.below hb5 (Nat.le_refl _)
      have HW6 : Hid (ViewB w4.heap.size w5 ao2 (M d1 zs 0).length (M d1 zs 0)) := HW2.out.below hb5 (Nat.le_refl _)
      have hml : (M d1 zs 0).length ≤ 1048576 := by have := M_len d1 zs 0 (by rw [HV5.out.1]; exact Nat.le_refl _); omega
      clear hown5 hb5
      go_wp2_with fail
      refine (same_any _ _ _ _ _ (M d1 zs 0) _ hml HW6.out HW3.out).mono ?_
      rintro e w6 ⟨rfl, m, rfl⟩
      go_wp2_with fail
      refine (maxLevel_any _ 0 _ zs _ (by omega) (HV5.out.drewN m)).mono ?_
      rintro e w7 ⟨rfl, hw7⟩
      obtain rfl := hw7.symm
      clear hw7
      obtain ⟨lv, elv⟩ : ∃ lv, lv = L zs 0 := ⟨_, rfl⟩
      rw [← elv] at HL HLn ⊢
      clear elv
      obtain ⟨ly, ely⟩ : ∃ ly, ly = L Y Y.length := ⟨_, rfl⟩
      rw [← ely] at HL
      have HLY : Hid (ly = L Y Y.length) := ely
      clear ely
      rcases cases3 d1 lv with hq | hq | hq
      · exfalso; omega
      · exfalso; omega
      · go_wp2_with fail
        refine (maxLevel_any _ Y.length _ Y _ (by omega) (HW5.out.drewN m)).mono ?_
        rintro e w8 ⟨rfl, hw8⟩
        obtain rfl := hw8.symm
        clear hw8
        rw [← HLY.out, HL.out.trans (if_neg (by omega))]
        go_wp2
        go_ret
        exact ⟨rfl, below_drewN (HB3.out.trans ((HB4.out.trans (HB5.out.mono HB4.out.size)).mono HB3.out.size)) _⟩
    · have hmv : mm = d1 := by rw [HMM.out]; unfold shallow; first | rw [if_pos (by omega)] | rw [if_neg (by omega), if_pos (by omega)] | rw [if_neg (by omega), if_neg (by omega)]
      obtain rfl := hmv.symm
      clear HMM
      go_wp2_with fail
      refine (prune_any _ 0 _ d1 zs _ (by omega) (Nat.le_refl _) (fun _ => ⟨rfl, rfl⟩) HD1.out HV.out).mono ?_
      rintro e w3 ⟨⟨ao1, cap1, rfl, hown3⟩, hb3⟩
      rw [← HY.out] at hown3 ⊢
      obtain ⟨hw1, hc1, hn1⟩ := view_own HYr.out hown3
      have HW1 : Hid (ViewB w3.heap.size w3 ao1 Y.length Y) := hw1
      have HN1 : Hid (ao1 = none → Y.length = 0 ∧ cap1 = 0) := hn1
      have HB3 : Hid (Below w.heap.size w w3) := hb3
      have HV3 : Hid (ViewB w3.heap.size w3 none 0 zs) := (HV.out.below hb3 (Nat.le_refl _)).mono hb3.size
      clear hown3 hb3 hw1 hn1
      go_wp2_with fail
      refine (prune_any ao1 Y.length cap1 d2 Y _ (by omega) hc1 HN1.out HD2.out HW1.out).mono ?_
      rintro e w4 ⟨⟨ao2, cap2, rfl, hown4⟩, hb4⟩
      rw [HT.out] at hown4 ⊢
      have HW2 : Hid (ViewB w4.heap.size w4 ao2 (M d1 zs 0).length (M d1 zs 0)) := (view_own (M_range HR.out) hown4).1
      have HB4 : Hid (Below w3.heap.size w3 w4) := hb4
      have HV4 : Hid (ViewB w4.heap.size w4 none 0 zs) := (HV3.out.below hb4 (Nat.le_refl _)).mono hb4.size
      have HW4 : Hid (ViewB w4.heap.size w4 ao1 Y.length Y) := (HW1.out.below hb4 (Nat.le_refl _)).mono hb4.size
      clear hown4 hb4
      go_wp2_with fail
      refine (prune_any _ 0 _ d1 zs _ (by omega) (Nat.le_refl _) (fun _ => ⟨rfl, rfl⟩) HMD.out HV4.out).mono ?_
      rintro e w5 ⟨⟨ao3, cap3, rfl, hown5⟩, hb5⟩
      have HW3 : Hid (ViewB w5.heap.size w5 ao3 (M d1 zs 0).length (M d1 zs 0)) := (view_own (M_range HR.out) hown5).1
      have HB5 : Hid (Below w4.heap.size w4 w5) := hb5
      have HV5 : Hid (ViewB w5.heap.size w5 none 0 zs) := (HV4.out.below hb5 (Nat.le_refl _)).mono hb5.size
      have HW5 : Hid (ViewB w4.heap.size w5 ao1 Y.length Y) := HW4.out.below hb5 (Nat.le_refl _)
      have HW6 : Hid (ViewB w4.heap.size w5 ao2 (M d1 zs 0).length (M d1 zs 0)) := HW2.out.below hb5 (Nat.le_refl _)
      have hml : (M d1 zs 0).length ≤ 1048576 := by have := M_len d1 zs 0 (by rw [HV5.out.1]; exact Nat.le_refl _); omega
      clear hown5 hb5
      go_wp2_with fail
      refine (same_any _ _ _ _ _ (M d1 zs 0) _ hml HW6.out HW3.out).mono ?_
      rintro e w6 ⟨rfl, m, rfl⟩
      go_wp2_with fail
      refine (maxLevel_any _ 0 _ zs _ (by omega) (HV5.out.drewN m)).mono ?_
      rintro e w7 ⟨rfl, hw7⟩
      obtain rfl := hw7.symm
      clear hw7
      obtain ⟨lv, elv⟩ : ∃ lv, lv = L zs 0 := ⟨_, rfl⟩
      rw [← elv] at HL HLn ⊢
      clear elv
      obtain ⟨ly, ely⟩ : ∃ ly, ly = L Y Y.length := ⟨_, rfl⟩
      rw [← ely] at HL
      have HLY : Hid (ly = L Y Y.length) := ely
      clear ely
      rcases cases3 d1 lv with hq | hq | hq
      · exfalso; omega
      · exfalso; omega
      · go_wp2_with fail
        refine (maxLevel_any _ Y.length _ Y _ (by omega) (HW5.out.drewN m)).mono ?_
        rintro e w8 ⟨rfl, hw8⟩
        obtain rfl := hw8.symm
        clear hw8
        rw [← HLY.out, HL.out.trans (if_neg (by omega))]
        go_wp2
        go_ret
        exact ⟨rfl, below_drewN (HB3.out.trans ((HB4.out.trans (HB5.out.mono HB4.out.size)).mono HB3.out.size)) _⟩
  | some x =>
    go_wp2_with (at_make; refine wpList_make_full _ rfl (.tmp 25) (.tmp 25) 22 rfl w.heap.size 5 i0 (.int .u8 0) 1 Try.underlying22 hi hz0 hz1 .i64 .i64 _ _ n rfl rfl rfl rfl ?b2 ?b3 ?b4 ?_)
    case b2 => rw [hz2]; omega
    case b3 => unfold maxLen; omega
    case b4 => exact Nat.le_refl _
    intro w1 hown1 hgrow1
    obtain ⟨cur, hcl, hcur⟩ := made_row hown1
    have hb1 : Below w.heap.size w w1 := (Below.refl _ _).grown hgrow1 (Nat.le_refl _) (fun k h => by cases h)
    have HP1 : Hid (ViewB w.heap.size w1 (some x) n zs) := HV.out.below hb1 (Nat.le_refl _)
    have HCL : Hid (cur.length = n) := hcl
    have HCUR : Hid (w1.heap[w.heap.size]? = some (.cells cur.toArray 5 (0, 0))) := hcur
    have HO1 : Hid (Below w.heap.size w w1) := hb1
    clear hown1 hgrow1 hcl hcur hb1
    go_wp2_with (refine wpList_copy_splice rfl (.tmp 27) (.tmp 28) 22 22 rfl 5 Try.underlying22 HSZ.out (some ⟨w.heap.size, 0, none⟩) (some x) n n n c rfl rfl w.heap.size 0 cur 5 HCUR.out X ?d1 ?d2 ?d3 ?d4 w.heap.size w HO1.out (Nat.le_refl _) ?_)
    case d1 => rw [HX.out]; simp [byteCells, HP1.out.1]
    case d2 => rw [HX.out]; intro h0; exact HP1.out.cells x rfl
    case d3 => rw [HX.out]; simp [byteCells, HP1.out.1, HCL.out]
    case d4 => rw [HX.out]; exact byteCells_one _
    intro w2 HG2 hb2
    have hB2 : w.heap.size < w2.heap.size := Nat.lt_of_not_le fun h => by
      have := HG2.out
      rw [Array.getElem?_eq_none h] at this
      cases this
    have HVc : Hid (ViewB w2.heap.size w2 (some ⟨w.heap.size, 0, none⟩) n zs) := view_row HCL.out HV.out.1 HV.out.2.1 hB2 (by rw [← HX.out]; exact HG2.out)
    have HB2 : Hid (Below w.heap.size w w2) := hb2
    clear HP1 HCL HCUR HO1 HG2 hb2 hB2 hneq
    obtain ⟨mm, emm⟩ : ∃ mm, mm = shallow d1 d2 := ⟨_, rfl⟩
    have HMM : Hid (mm = shallow d1 d2) := emm
    have HMD : Hid (-9223372036854775808 ≤ mm ∧ mm ≤ 9223372036854775807) := by unfold Hid; rw [emm]; exact shallow_range HD1.out HD2.out
    clear emm
    obtain ⟨Y, eY⟩ : ∃ Y, Y = M d1 zs n := ⟨_, rfl⟩
    have HY : Hid (Y = M d1 zs n) := eY
    have HYr : Hid (∀ i, 0 ≤ Y.getD i 0 ∧ Y.getD i 0 ≤ 255) := by unfold Hid; rw [eY]; exact M_range HR.out
    have HYl : Y.length ≤ n := by rw [eY]; exact M_len d1 zs n (by rw [HVc.out.1]; exact Nat.le_refl _)
    have HT : Hid (M d2 Y Y.length = M mm zs n) := by unfold Hid; rw [eY, HMM.out]; exact twice_at (by rw [HVc.out.1])
    have HL : Hid ((L Y Y.length : Int) = if 0 ≤ d1 ∧ d1 < (L zs n : Int) then d1 + 1 else (L zs n : Int)) := by unfold Hid; rw [eY]; exact level_at (by rw [HVc.out.1])
    have HLn : L zs n ≤ n := L_le zs n (by rw [HVc.out.1]; exact Nat.le_refl _)
    clear eY
    rcases cases4 d1 d2 with hp | hp | hp | hp
    · have hmv : mm = d2 := by rw [HMM.out]; unfold shallow; first | rw [if_pos (by omega)] | rw [if_neg (by omega), if_pos (by omega)] | rw [if_neg (by omega), if_neg (by omega)]
      obtain rfl := hmv.symm
      clear HMM
      go_wp2_with fail
      refine (prune_any _ n _ d1 zs _ (by omega) (Nat.le_refl _) (fun h => by cases h) HD1.out HVc.out).mono ?_
      rintro e w3 ⟨⟨ao1, cap1, rfl, hown3⟩, hb3⟩
      rw [← HY.out] at hown3 ⊢
      obtain ⟨hw1, hc1, hn1⟩ := view_own HYr.out hown3
      have HW1 : Hid (ViewB w3.heap.size w3 ao1 Y.length Y) := hw1
      have HN1 : Hid (ao1 = none → Y.length = 0 ∧ cap1 = 0) := hn1
      have HB3 : Hid (Below w2.heap.size w2 w3) := hb3
      have HV3 : Hid (ViewB w3.heap.size w3 (some ⟨w.heap.size, 0, none⟩) n zs) := (HVc.out.below hb3 (Nat.le_refl _)).mono hb3.size
      clear hown3 hb3 hw1 hn1
      go_wp2_with fail
      refine (prune_any ao1 Y.length cap1 d2 Y _ (by omega) hc1 HN1.out HD2.out HW1.out).mono ?_
      rintro e w4 ⟨⟨ao2, cap2, rfl, hown4⟩, hb4⟩
      rw [HT.out] at hown4 ⊢
      have HW2 : Hid (ViewB w4.heap.size w4 ao2 (M d2 zs n).length (M d2 zs n)) := (view_own (M_range HR.out) hown4).1
      have HB4 : Hid (Below w3.heap.size w3 w4) := hb4
      have HV4 : Hid (ViewB w4.heap.size w4 (some ⟨w.heap.size, 0, none⟩) n zs) := (HV3.out.below hb4 (Nat.le_refl _)).mono hb4.size
      have HW4 : Hid (ViewB w4.heap.size w4 ao1 Y.length Y) := (HW1.out.below hb4 (Nat.le_refl _)).mono hb4.size
      clear hown4 hb4
      go_wp2_with fail
      refine (prune_any _ n _ d2 zs _ (by omega) (Nat.le_refl _) (fun h => by cases h) HMD.out HV4.out).mono ?_
      rintro e w5 ⟨⟨ao3, cap3, rfl, hown5⟩, hb5⟩
      have HW3 : Hid (ViewB w5.heap.size w5 ao3 (M d2 zs n).length (M d2 zs n)) := (view_own (M_range HR.out) hown5).1
      have HB5 : Hid (Below w4.heap.size w4 w5) := hb5
      have HV5 : Hid (ViewB w5.heap.size w5 (some ⟨w.heap.size, 0, none⟩) n zs) := (HV4.out.below hb5 (Nat.le_refl _)).mono hb5.size
      have HW5 : Hid (ViewB w4.heap.size w5 ao1 Y.length Y) := HW4.out.below hb5 (Nat.le_refl _)
      have HW6 : Hid (ViewB w4.heap.size w5 ao2 (M d2 zs n).length (M d2 zs n)) := HW2.out.below hb5 (Nat.le_refl _)
      have hml : (M d2 zs n).length ≤ 1048576 := by have := M_len d2 zs n (by rw [HV5.out.1]; exact Nat.le_refl _); omega
      clear hown5 hb5
      go_wp2_with fail
      refine (same_any _ _ _ _ _ (M d2 zs n) _ hml HW6.out HW3.out).mono ?_
      rintro e w6 ⟨rfl, m, rfl⟩
      go_wp2_with fail
      refine (maxLevel_any _ n _ zs _ (by omega) (HV5.out.drewN m)).mono ?_
      rintro e w7 ⟨rfl, hw7⟩
      obtain rfl := hw7.symm
      clear hw7
      obtain ⟨lv, elv⟩ : ∃ lv, lv = L zs n := ⟨_, rfl⟩
      rw [← elv] at HL HLn ⊢
      clear elv
      obtain ⟨ly, ely⟩ : ∃ ly, ly = L Y Y.length := ⟨_, rfl⟩
      rw [← ely] at HL
      have HLY : Hid (ly = L Y Y.length) := ely
      clear ely
      rcases cases3 d1 lv with hq | hq | hq
      · go_wp2_with fail
        refine (maxLevel_any _ Y.length _ Y _ (by omega) (HW5.out.drewN m)).mono ?_
        rintro e w8 ⟨rfl, hw8⟩
        obtain rfl := hw8.symm
        clear hw8
        rw [← HLY.out, HL.out.trans (if_neg (by omega))]
        go_wp2
        go_ret
        exact ⟨rfl, below_drewN (HB2.out.trans ((HB3.out.trans ((HB4.out.trans (HB5.out.mono HB4.out.size)).mono HB3.out.size)).mono HB2.out.size)) _⟩
      · exfalso; omega
      · exfalso; omega
    · have hmv : mm = d2 := by rw [HMM.out]; unfold shallow; first | rw [if_pos (by omega)] | rw [if_neg (by omega), if_pos (by omega)] | rw [if_neg (by omega), if_neg (by omega)]
      obtain rfl := hmv.symm
      clear HMM
      go_wp2_with fail
      refine (prune_any _ n _ d1 zs _ (by omega) (Nat.le_refl _) (fun h => by cases h) HD1.out HVc.out).mono ?_
      rintro e w3 ⟨⟨ao1, cap1, rfl, hown3⟩, hb3⟩
      rw [← HY.out] at hown3 ⊢
      obtain ⟨hw1, hc1, hn1⟩ := view_own HYr.out hown3
      have HW1 : Hid (ViewB w3.heap.size w3 ao1 Y.length Y) := hw1
      have HN1 : Hid (ao1 = none → Y.length = 0 ∧ cap1 = 0) := hn1
      have HB3 : Hid (Below w2.heap.size w2 w3) := hb3
      have HV3 : Hid (ViewB w3.heap.size w3 (some ⟨w.heap.size, 0, none⟩) n zs) := (HVc.out.below hb3 (Nat.le_refl _)).mono hb3.size
      clear hown3 hb3 hw1 hn1
      go_wp2_with fail
      refine (prune_any ao1 Y.length cap1 d2 Y _ (by omega) hc1 HN1.out HD2.out HW1.out).mono ?_
      rintro e w4 ⟨⟨ao2, cap2, rfl, hown4⟩, hb4⟩
      rw [HT.out] at hown4 ⊢
      have HW2 : Hid (ViewB w4.heap.size w4 ao2 (M d2 zs n).length (M d2 zs n)) := (view_own (M_range HR.out) hown4).1
      have HB4 : Hid (Below w3.heap.size w3 w4) := hb4
      have HV4 : Hid (ViewB w4.heap.size w4 (some ⟨w.heap.size, 0, none⟩) n zs) := (HV3.out.below hb4 (Nat.le_refl _)).mono hb4.size
      have HW4 : Hid (ViewB w4.heap.size w4 ao1 Y.length Y) := (HW1.out.below hb4 (Nat.le_refl _)).mono hb4.size
      clear hown4 hb4
      go_wp2_with fail
      refine (prune_any _ n _ d2 zs _ (by omega) (Nat.le_refl _) (fun h => by cases h) HMD.out HV4.out).mono ?_
      rintro e w5 ⟨⟨ao3, cap3, rfl, hown5⟩, hb5⟩
      have HW3 : Hid (ViewB w5.heap.size w5 ao3 (M d2 zs n).length (M d2 zs n)) := (view_own (M_range HR.out) hown5).1
      have HB5 : Hid (Below w4.heap.size w4 w5) := hb5
      have HV5 : Hid (ViewB w5.heap.size w5 (some ⟨w.heap.size, 0, none⟩) n zs) := (HV4.out.below hb5 (Nat.le_refl _)).mono hb5.size
      have HW5 : Hid (ViewB w4.heap.size w5 ao1 Y.length Y) := HW4.out.below hb5 (Nat.le_refl _)
      have HW6 : Hid (ViewB w4.heap.size w5 ao2 (M d2 zs n).length (M d2 zs n)) := HW2.out.below hb5 (Nat.le_refl _)
      have hml : (M d2 zs n).length ≤ 1048576 := by have := M_len d2 zs n (by rw [HV5.out.1]; exact Nat.le_refl _); omega
      clear hown5 hb5
      go_wp2_with fail
      refine (same_any _ _ _ _ _ (M d2 zs n) _ hml HW6.out HW3.out).mono ?_
      rintro e w6 ⟨rfl, m, rfl⟩
      go_wp2_with fail
      refine (maxLevel_any _ n _ zs _ (by omega) (HV5.out.drewN m)).mono ?_
      rintro e w7 ⟨rfl, hw7⟩
      obtain rfl := hw7.symm
      clear hw7
      obtain ⟨lv, elv⟩ : ∃ lv, lv = L zs n := ⟨_, rfl⟩
      rw [← elv] at HL HLn ⊢
      clear elv
      obtain ⟨ly, ely⟩ : ∃ ly, ly = L Y Y.length := ⟨_, rfl⟩
      rw [← ely] at HL
      have HLY : Hid (ly = L Y Y.length) := ely
      clear ely
      rcases cases3 d1 lv with hq | hq | hq
      · exfalso; omega
      · go_wp2_with fail
        refine (maxLevel_any _ Y.length _ Y _ (by omega) (HW5.out.drewN m)).mono ?_
        rintro e w8 ⟨rfl, hw8⟩
        obtain rfl := hw8.symm
        clear hw8
        rw [← HLY.out, HL.out.trans (if_pos (by omega))]
        go_wp2
        go_ret
        exact ⟨rfl, below_drewN (HB2.out.trans ((HB3.out.trans ((HB4.out.trans (HB5.out.mono HB4.out.size)).mono HB3.out.size)).mono HB2.out.size)) _⟩
      · go_wp2_with fail
        refine (maxLevel_any _ Y.length _ Y _ (by omega) (HW5.out.drewN m)).mono ?_
        rintro e w8 ⟨rfl, hw8⟩
        obtain rfl := hw8.symm
        clear hw8
        rw [← HLY.out, HL.out.trans (if_neg (by omega))]
        go_wp2
        go_ret
        exact ⟨rfl, below_drewN (HB2.out.trans ((HB3.out.trans ((HB4.out.trans (HB5.out.mono HB4.out.size)).mono HB3.out.size)).mono HB2.out.size)) _⟩
    · have hmv : mm = d1 := by rw [HMM.out]; unfold shallow; first | rw [if_pos (by omega)] | rw [if_neg (by omega), if_pos (by omega)] | rw [if_neg (by omega), if_neg (by omega)]
      obtain rfl := hmv.symm
      clear HMM
      go_wp2_with fail
      refine (prune_any _ n _ d1 zs _ (by omega) (Nat.le_refl _) (fun h => by cases h) HD1.out HVc.out).mono ?_
      rintro e w3 ⟨⟨ao1, cap1, rfl, hown3⟩, hb3⟩
      rw [← HY.out] at hown3 ⊢
      obtain ⟨hw1, hc1, hn1⟩ := view_own HYr.out hown3
      have HW1 : Hid (ViewB w3.heap.size w3 ao1 Y.length Y) := hw1
      have HN1 : Hid (ao1 = none → Y.length = 0 ∧ cap1 = 0) := hn1
      have HB3 : Hid (Below w2.heap.size w2 w3) := hb3
      have HV3 : Hid (ViewB w3.heap.size w3 (some ⟨w.heap.size, 0, none⟩) n zs) := (HVc.out.below hb3 (Nat.le_refl _)).mono hb3.size
      clear hown3 hb3 hw1 hn1
      go_wp2_with fail
      refine (prune_any ao1 Y.length cap1 d2 Y _ (by omega) hc1 HN1.out HD2.out HW1.out).mono ?_
      rintro e w4 ⟨⟨ao2, cap2, rfl, hown4⟩, hb4⟩
      rw [HT.out] at hown4 ⊢
      have HW2 : Hid (ViewB w4.heap.size w4 ao2 (M d1 zs n).length (M d1 zs n)) := (view_own (M_range HR.out) hown4).1
      have HB4 : Hid (Below w3.heap.size w3 w4) := hb4
      have HV4 : Hid (ViewB w4.heap.size w4 (some ⟨w.heap.size, 0, none⟩) n zs) := (HV3.out.below hb4 (Nat.le_refl _)).mono hb4.size
      have HW4 : Hid (ViewB w4.heap.size w4 ao1 Y.length Y) := (HW1.out.below hb4 (Nat.le_refl _)).mono hb4.size
      clear hown4 hb4
      go_wp2_with fail
      refine (prune_any _ n _ d1 zs _ (by omega) (Nat.le_refl _) (fun h => by cases h) HMD.out HV4.out).mono ?_
      rintro e w5 ⟨⟨ao3, cap3, rfl, hown5⟩, hb5⟩
      have HW3 : Hid (ViewB w5.heap.size w5 ao3 (M d1 zs n).length (M d1 zs n)) := (view_own (M_range HR.out) hown5).1
      have HB5 : Hid (Below w4.heap.size w4 w5) := hb5
      have HV5 : Hid (ViewB w5.heap.size w5 (some ⟨w.heap.size, 0, none⟩) n zs) := (HV4.out.below hb5 (Nat.le_refl _)).mono hb5.size
      have HW5 : Hid (ViewB w4.heap.size w5 ao1 Y.length Y) := HW4.out.below hb5 (Nat.le_refl _)
      have HW6 : Hid (ViewB w4.heap.size w5 ao2 (M d1 zs n).length (M d1 zs n)) := HW2.out.below hb5 (Nat.le_refl _)
      have hml : (M d1 zs n).length ≤ 1048576 := by have := M_len d1 zs n (by rw [HV5.out.1]; exact Nat.le_refl _); omega
      clear hown5 hb5
      go_wp2_with fail
      refine (same_any _ _ _ _ _ (M d1 zs n) _ hml HW6.out HW3.out).mono ?_
      rintro e w6 ⟨rfl, m, rfl⟩
      go_wp2_with fail
      refine (maxLevel_any _ n _ zs _ (by omega) (HV5.out.drewN m)).mono ?_
      rintro e w7 ⟨rfl, hw7⟩
      obtain rfl := hw7.symm
      clear hw7
      obtain ⟨lv, elv⟩ : ∃ lv, lv = L zs n := ⟨_, rfl⟩
      rw [← elv] at HL HLn ⊢
      clear elv
      obtain ⟨ly, ely⟩ : ∃ ly, ly = L Y Y.length := ⟨_, rfl⟩
      rw [← ely] at HL
      have HLY : Hid (ly = L Y Y.length) := ely
      clear ely
      rcases cases3 d1 lv with hq | hq | hq
      · exfalso; omega
      · go_wp2_with fail
        refine (maxLevel_any _ Y.length _ Y _ (by omega) (HW5.out.drewN m)).mono ?_
        rintro e w8 ⟨rfl, hw8⟩
        obtain rfl := hw8.symm
        clear hw8
        rw [← HLY.out, HL.out.trans (if_pos (by omega))]
        go_wp2
        go_ret
        exact ⟨rfl, below_drewN (HB2.out.trans ((HB3.out.trans ((HB4.out.trans (HB5.out.mono HB4.out.size)).mono HB3.out.size)).mono HB2.out.size)) _⟩
      · go_wp2_with fail
        refine (maxLevel_any _ Y.length _ Y _ (by omega) (HW5.out.drewN m)).mono ?_
        rintro e w8 ⟨rfl, hw8⟩
        obtain rfl := hw8.symm
        clear hw8
        rw [← HLY.out, HL.out.trans (if_neg (by omega))]
        go_wp2
        go_ret
        exact ⟨rfl, below_drewN (HB2.out.trans ((HB3.out.trans ((HB4.out.trans (HB5.out.mono HB4.out.size)).mono HB3.out.size)).mono HB2.out.size)) _⟩
    · have hmv : mm = d1 := by rw [HMM.out]; unfold shallow; first | rw [if_pos (by omega)] | rw [if_neg (by omega), if_pos (by omega)] | rw [if_neg (by omega), if_neg (by omega)]
      obtain rfl := hmv.symm
      clear HMM
      go_wp2_with fail
      refine (prune_any _ n _ d1 zs _ (by omega) (Nat.le_refl _) (fun h => by cases h) HD1.out HVc.out).mono ?_
      rintro e w3 ⟨⟨ao1, cap1, rfl, hown3⟩, hb3⟩
      rw [← HY.out] at hown3 ⊢
      obtain ⟨hw1, hc1, hn1⟩ := view_own HYr.out hown3
      have HW1 : Hid (ViewB w3.heap.size w3 ao1 Y.length Y) := hw1
      have HN1 : Hid (ao1 = none → Y.length = 0 ∧ cap1 = 0) := hn1
      have HB3 : Hid (Below w2.heap.size w2 w3) := hb3
      have HV3 : Hid (ViewB w3.heap.size w3 (some ⟨w.heap.size, 0, none⟩) n zs) := (HVc.out.below hb3 (Nat.le_refl _)).mono hb3.size
      clear hown3 hb3 hw1 hn1
      go_wp2_with fail
      refine (prune_any ao1 Y.length cap1 d2 Y _ (by omega) hc1 HN1.out HD2.out HW1.out).mono ?_
      rintro e w4 ⟨⟨ao2, cap2, rfl, hown4⟩, hb4⟩
      rw [HT.out] at hown4 ⊢
      have HW2 : Hid (ViewB w4.heap.size w4 ao2 (M d1 zs n).length (M d1 zs n)) := (view_own (M_range HR.out) hown4).1
      have HB4 : Hid (Below w3.heap.size w3 w4) := hb4
      have HV4 : Hid (ViewB w4.heap.size w4 (some ⟨w.heap.size, 0, none⟩) n zs) := (HV3.out.below hb4 (Nat.le_refl _)).mono hb4.size
      have HW4 : Hid (ViewB w4.heap.size w4 ao1 Y.length Y) := (HW1.out.below hb4 (Nat.le_refl _)).mono hb4.size
      clear hown4 hb4
      go_wp2_with fail
      refine (prune_any _ n _ d1 zs _ (by omega) (Nat.le_refl _) (fun h => by cases h) HMD.out HV4.out).mono ?_
      rintro e w5 ⟨⟨ao3, cap3, rfl, hown5⟩, hb5⟩
      have HW3 : Hid (ViewB w5.heap.size w5 ao3 (M d1 zs n).length (M d1 zs n)) := (view_own (M_range HR.out) hown5).1
      have HB5 : Hid (Below w4.heap.size w4 w5) := hb5
      have HV5 : Hid (ViewB w5.heap.size w5 (some ⟨w.heap.size, 0, none⟩) n zs) := (HV4.out.below hb5 (Nat.le_refl _)).mono hb5.size
      have HW5 : Hid (ViewB w4.heap.size w5 ao1 Y.length Y) := HW4.out.below hb5 (Nat.le_refl _)
      have HW6 : Hid (ViewB w4.heap.size w5 ao2 (M d1 zs n).length (M d1 zs n)) := HW2.out.below hb5 (Nat.le_refl _)
      have hml : (M d1 zs n).length ≤ 1048576 := by have := M_len d1 zs n (by rw [HV5.out.1]; exact Nat.le_refl _); omega
      clear hown5 hb5
      go_wp2_with fail
      refine (same_any _ _ _ _ _ (M d1 zs n) _ hml HW6.out HW3.out).mono ?_
      rintro e w6 ⟨rfl, m, rfl⟩
      go_wp2_with fail
      refine (maxLevel_any _ n _ zs _ (by omega) (HV5.out.drewN m)).mono ?_
      rintro e w7 ⟨rfl, hw7⟩
      obtain rfl := hw7.symm
      clear hw7
      obtain ⟨lv, elv⟩ : ∃ lv, lv = L zs n := ⟨_, rfl⟩
      rw [← elv] at HL HLn ⊢
      clear elv
      obtain ⟨ly, ely⟩ : ∃ ly, ly = L Y Y.length := ⟨_, rfl⟩
      rw [← ely] at HL
      have HLY : Hid (ly = L Y Y.length) := ely
      clear ely
      rcases cases3 d1 lv with hq | hq | hq
      · exfalso; omega
      · go_wp2_with fail
        refine (maxLevel_any _ Y.length _ Y _ (by omega) (HW5.out.drewN m)).mono ?_
        rintro e w8 ⟨rfl, hw8⟩
        obtain rfl := hw8.symm
        clear hw8
        rw [← HLY.out, HL.out.trans (if_pos (by omega))]
        go_wp2
        go_ret
        exact ⟨rfl, below_drewN (HB2.out.trans ((HB3.out.trans ((HB4.out.trans (HB5.out.mono HB4.out.size)).mono HB3.out.size)).mono HB2.out.size)) _⟩
      · go_wp2_with fail
        refine (maxLevel_any _ Y.length _ Y _ (by omega) (HW5.out.drewN m)).mono ?_
        rintro e w8 ⟨rfl, hw8⟩
        obtain rfl := hw8.symm
        clear hw8
        rw [← HLY.out, HL.out.trans (if_neg (by omega))]
        go_wp2
        go_ret
        exact ⟨rfl, below_drewN (HB2.out.trans ((HB3.out.trans ((HB4.out.trans (HB5.out.mono HB4.out.size)).mono HB3.out.size)).mono HB2.out.size)) _⟩

end Go.Proofs.Qxb6627783a
