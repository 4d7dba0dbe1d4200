/-
  The walk of FnSharesGrantedIsTheExactSumOfEveryEntry.
-/
import Derived.Test.Qxb6627829aParts
import Derived.Test.Qxb6627829aSign
namespace Go.Proofs.Qxb6627829a
open Go.RowKit

theorem small_of {rows : List (List Int)} {n : Nat} (h0 : rows.length = n) (h1 : n ≤ 65536) (h2 : ∀ i, i < n → (rows.getD i []).length ≤ 131072) (h3 : ∀ i j, -9223372036854775808 ≤ (rows.getD i []).getD j 0 ∧ (rows.getD i []).getD j 0 ≤ 9223372036854775807) : Small rows := by
  refine ⟨by omega, fun i => ?_, h3⟩
  by_cases hi : i < n
  · exact h2 i hi
  · rw [List.getD, List.getElem?_eq_none (by omega)]; simp

theorem or0 (x : Int) (h1 : 0 ≤ x) (h2 : x ≤ 18446744073709551615) : bits .or .u64 0 x = x := by
  rw [u64_or _ _ (by omega) (by omega) h1 (by omega)]
  simp
  omega

theorem mag_cases {T s h l : Int} {neg : Bool} {ws : List Int} (hm : MagIs T s h l) (hT : T = sgn neg (val ws)) (hw : Norm2 ws) (hn : neg = true → 0 < ws.length) :
    (ws = [] ∧ s = 0 ∧ h = 0 ∧ l = 0) ∨ (∃ x, ws = [x] ∧ s = (if neg = true then -1 else 1) ∧ h = 0 ∧ l = x ∧ 0 ≤ x ∧ x ≤ 18446744073709551615) ∨ ∃ x y, ws = [x, y] ∧ s = (if neg = true then -1 else 1) ∧ h = y ∧ l = x ∧ 0 ≤ x ∧ x ≤ 18446744073709551615 ∧ 0 ≤ y ∧ y ≤ 18446744073709551615 := by
  obtain ⟨m1, m2, m3, m4, m5, m6⟩ := hm
  rcases norm2_cases hw with rfl | ⟨x, rfl, h1, h2⟩ | ⟨x, y, rfl, h1, h2, h3, h4⟩
  · have : T = 0 := by rw [hT]; unfold sgn; simp [val]
    subst this
    exact .inl ⟨rfl, by rw [m1]; simp, by omega, by omega⟩
  · rw [val_one] at hT
    refine .inr (.inl ⟨x, rfl, ?_, ?_, ?_, by omega, h2⟩)
    · rw [m1, hT]; cases neg <;> simp [sgn] <;> omega
    · rw [hT] at m6; cases neg <;> simp [sgn] at m6 <;> omega
    · rw [hT] at m6; cases neg <;> simp [sgn] at m6 <;> omega
  · rw [val_two] at hT
    refine .inr (.inr ⟨x, y, rfl, ?_, ?_, ?_, h1, h2, by omega, h4⟩)
    · rw [m1, hT]; cases neg <;> simp [sgn] <;> omega
    · rw [hT] at m6; cases neg <;> simp [sgn] at m6 <;> omega
    · rw [hT] at m6; cases neg <;> simp [sgn] at m6 <;> omega

set_option maxHeartbeats 6400000 in
set_option maxRecDepth 100000 in
theorem exact_walk (a : Option Addr) (n c : Nat) (rows : List (List Int)) (w : World) (hv : MV w.heap.size w a n rows) (hn : n ≤ 9223372036854775807) (hl : ∀ i, i < n → (rows.getD i []).length ≤ 9223372036854775807)
    (hr : ∀ i j, -9223372036854775808 ≤ (rows.getD i []).getD j 0 ∧ (rows.getD i []).getD j 0 ≤ 9223372036854775807) :
    Calls Try.prog 3 #[.slice a n c] w fun e w' => e = .returned (.bool true) ∧ Below w.heap.size w w' := by
  have HV : Hid (MV w.heap.size w a n rows) := hv
  have HR : Hid (∀ i j, -9223372036854775808 ≤ (rows.getD i []).getD j 0 ∧ (rows.getD i []).getD j 0 ≤ 9223372036854775807) := hr
  have HL : Hid (∀ i, i < n → (rows.getD i []).length ≤ 9223372036854775807) := hl
  clear hv hr hl
  go_enter Try.func3, Try.ntmps3
  go_wp2_with fail
  refine (bytes5 a n c rows w HV.out hn HL.out).mono ?_
  rintro e w' ⟨⟨r, rfl, hr⟩, hw⟩
  obtain rfl := hw.symm
  cases r
  · go_wp2
    go_ret
    exact ⟨rfl, Below.refl _ _⟩
  have HOK : Hid (SizeOK n rows) := hr rfl
  have hn1 : n ≤ 1048576 := HOK.out.1
  clear hr hw hn HL
  by_cases h16 : n ≤ 65536
  · by_cases h24 : 24 * n ≤ 1048576
    · go_wp2
      go_loop [3, 4] (fun v3 v4 => ∃ (k : Nat) (T : Int), (k : Int) ≤ n ∧ 0 ≤ T ∧ T ≤ 1048576 ∧ v3 = .int .i64 T ∧ v4 = .int .i64 k ∧ Hid (∀ i, i < k → (rows.getD i []).length ≤ 131072)) (fun _ v4 => n - (intOf v4).toNat)
      case atStart => exact ⟨0, 24 * n, by omega, by omega, by omega, rfl, rfl, fun i hi => by omega⟩
      case round =>
        obtain ⟨k, T, hk, hT0, hT1, rfl, rfl, HK⟩ := hrel
        by_cases hlt : k < n
        · obtain ⟨b, off, rfl, ra, rc, N, eN, hcell⟩ : ∃ b off, a = some ⟨b, off, none⟩ ∧ ∃ ra rc N, N = (rows.getD k []).length ∧ w.cell? ⟨b, off + k, none⟩ = some (.slice ra N rc) := by
            rcases HV.out.2 with h | ⟨b, off, h, hb, h2⟩
            · omega
            · obtain ⟨v, g1, ra, rc, g2, g3, g4⟩ := h2 k hlt
              exact ⟨b, off, h, ra, rc, _, rfl, by rw [← g2]; exact g1⟩
          have hN : N ≤ 1048576 := by rw [eN]; exact HOK.out.2 k hlt
          have EN : Hid (N = (rows.getD k []).length) := eN
          clear eN
          have hki : (k : Int) < (n : Int) := by omega
          by_cases hT : T + 8 * (N : Int) ≤ 1048576
          · have HK' : Hid (∀ i, i < k + 1 → (rows.getD i []).length ≤ 131072) := fun i hi => by
              by_cases e : i = k
              · rw [e, ← EN.out]; omega
              · exact HK.out i (by omega)
            go_wp2
            go_round
            case rel => exact ⟨k + 1, T + 8 * N, by omega, by omega, by omega, by go_num, by go_num, HK'⟩
            case measure => simp [intOf]; omega
          · go_wp2
            go_ret
            exact ⟨rfl, Below.refl _ _⟩
        · obtain rfl : k = n := by omega
          have HSM : Hid (Small rows) := small_of HV.out.1 h16 HK.out HR.out
          clear HK HOK HR hlt
          go_wp2_with fail
          refine (build_any a k c rows w HV.out h16 HSM.out.2.1).mono ?_
          rintro e w1 ⟨A, pp, rfl, hpp, hP⟩
          have HPL : Hid (PlanIn w.heap.size w w1 w.heap.size k A rows k) := hP
          have HB1 : Hid (Below w.heap.size w w1) := hP.bel
          have HPP : Hid (w1.cell? ⟨pp, 6, none⟩ = some (.slice (some ⟨w.heap.size, 0, none⟩) k k)) := hpp
          clear hP hpp
          go_wp2_with fail
          have hgr : Calls Try.prog 7 #[.pointer (some ⟨pp, 0, none⟩)] w1 fun e w' => ∃ p, e = .returned (.pointer (some ⟨p, 0, none⟩)) ∧ BigAt w1.heap.size w' p (tsum rows k) ∧ Below w1.heap.size w1 w' := by
            have hview := HPL.out.view (o := 0) (m := k) HV.out.1 (by omega) HSM.out
            rw [List.drop_zero, List.take_of_length_le (by rw [HV.out.1]; exact Nat.le_refl _)] at hview
            exact granted_some pp w.heap.size 0 k k rows w1 HPP.out hview HSM.out
          refine hgr.mono ?_
          rintro e w2 ⟨p, rfl, hbig, hb2⟩
          have HBG : Hid (BigAt w1.heap.size w2 p (tsum rows k)) := hbig
          have HB2 : Hid (Below w.heap.size w w2) := HB1.out.trans (hb2.mono HB1.out.size)
          clear hgr hbig hb2 HPL HPP HB1
          go_wp2_with fail
          refine (sum_any a k c rows w2 (HV.out.below HB2.out (Nat.le_refl _)) HSM.out).mono ?_
          rintro e w3 ⟨⟨H, L, rfl, hsum⟩, hw3⟩
          obtain rfl := hw3.symm
          have HSU : Hid (SumIs H L (tsum rows k)) := hsum
          clear hsum hw3
          go_wp2_with fail
          have tb := tsum_bound rows HSM.out k (by rw [HV.out.1]; exact Nat.le_refl _)
          refine (signMag_any H L (tsum rows k) w2 HSU.out (by omega) (by omega)).mono ?_
          rintro e w3 ⟨⟨sg, mh, ml, rfl, hmag⟩, hw3⟩
          obtain rfl := hw3.symm
          have HMG : Hid (MagIs (tsum rows k) sg mh ml) := hmag
          clear hmag hw3 tb HSU
          obtain ⟨neg, ao, nn, cc, ws, hp, hN, hT, hneg, _, _⟩ := HBG.out
          obtain ⟨c0, c1, _, _⟩ := cell_two hp
          have hlw : ws.length = nn := hN.1
          have hrow := hN.row
          rcases mag_cases HMG.out hT hN.2.1 (by rw [hlw]; exact hneg) with ⟨rfl, rfl, rfl, rfl⟩ | ⟨x, rfl, rfl, rfl, rfl, x0, x1⟩ | ⟨x, y, rfl, rfl, rfl, rfl, x0, x1, y0, y1⟩
          · obtain rfl : nn = 0 := by simpa using hlw.symm
            clear hrow hN hT hneg hp HMG HBG hlw HSM
            go_wp2_with fail
            refine (sign_zero p ao cc w2 c1).mono ?_
            rintro e w3 ⟨rfl, hw3⟩
            obtain rfl := hw3.symm
            clear hw3
            go_wp2_with fail
            refine (bits_any p ao 0 cc w2 c1).mono ?_
            rintro e w3 ⟨rfl, hw3⟩
            obtain rfl := hw3.symm
            clear hw3
            go_wp2
            refine wp_loop_rounds 1 ?_
            rw [rounds_succ]
            go_wp2
            go_ret
            exact ⟨rfl, HB2.out⟩
          · obtain rfl : nn = 1 := by simpa using hlw.symm
            obtain ⟨gx, rfl, _, hcx⟩ := hrow (by omega)
            have k0 : w2.cell? ⟨gx, 0, none⟩ = some (.int .u64 ml) := hcx 0 (by omega)
            clear hrow hN hT hneg hp HMG HBG hlw hcx HSM
            have o0 := or0 ml x0 x1
            cases neg
            all_goals
              simp only [Bool.false_eq_true, if_false, if_true]
              go_wp2_with fail
              refine (sign_neg p _ (some ⟨gx, 0, none⟩) 1 cc w2 c0 c1 (by omega)).mono ?_
              rintro e w3 ⟨rfl, hw3⟩
              obtain rfl := hw3.symm
              clear hw3
              simp only [Bool.false_eq_true, if_false, if_true]
              go_wp2_with fail
              refine (bits_any p (some ⟨gx, 0, none⟩) 1 cc w2 c1).mono ?_
              rintro e w3 ⟨rfl, hw3⟩
              obtain rfl := hw3.symm
              clear hw3
              go_wp2
              refine wp_loop_rounds 2 ?_
              rw [rounds_succ]
              go_wp2
              rw [rounds_succ]
              go_wp2
              go_ret
              exact ⟨rfl, HB2.out⟩
          · obtain rfl : nn = 2 := by simpa using hlw.symm
            obtain ⟨gx, rfl, _, hcx⟩ := hrow (by omega)
            have k0 : w2.cell? ⟨gx, 0, none⟩ = some (.int .u64 ml) := hcx 0 (by omega)
            have k1 : w2.cell? ⟨gx, 1, none⟩ = some (.int .u64 mh) := hcx 1 (by omega)
            clear hrow hN hT hneg hp HMG HBG hlw hcx HSM
            have o0 := or0 ml x0 x1
            have o1 := or0 mh y0 y1
            cases neg
            all_goals
              simp only [Bool.false_eq_true, if_false, if_true]
              go_wp2_with fail
              refine (sign_neg p _ (some ⟨gx, 0, none⟩) 2 cc w2 c0 c1 (by omega)).mono ?_
              rintro e w3 ⟨rfl, hw3⟩
              obtain rfl := hw3.symm
              clear hw3
              simp only [Bool.false_eq_true, if_false, if_true]
              go_wp2_with fail
              refine (bits_any p (some ⟨gx, 0, none⟩) 2 cc w2 c1).mono ?_
              rintro e w3 ⟨rfl, hw3⟩
              obtain rfl := hw3.symm
              clear hw3
              go_wp2
              refine wp_loop_rounds 3 ?_
              rw [rounds_succ]
              go_wp2
              rw [rounds_succ]
              go_wp2
              rw [rounds_succ]
              go_wp2
              go_ret
              exact ⟨rfl, HB2.out⟩
    · go_wp2
      go_ret
      exact ⟨rfl, Below.refl _ _⟩
  · go_wp2
    go_ret
    exact ⟨rfl, Below.refl _ _⟩

end Go.Proofs.Qxb6627829a
