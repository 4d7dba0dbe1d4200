/-
  The walk of FnSharesGrantedAddsUpOverAnyCutOfTheGrants.
-/
import Derived.Test.Qxb6627829aExact
import Derived.Test.Qxb6627829aIntCmp
namespace Go.Proofs.Qxb6627829a
open Go.RowKit

theorem PlanIn.below {w0 w w' : World} {gb n k : Nat} {A : Nat → Nat} {rows : List (List Int)} (h : PlanIn w0.heap.size w0 w gb n A rows k) (hb : Below w.heap.size w w') : PlanIn w0.heap.size w0 w' gb n A rows k :=
  h.frame hb.size ⟨hb.os, hb.tape, hb.output⟩ (fun j hj => hb.block j hj) h.bel.size

theorem tsum_cut (rows : List (List Int)) (n k : Nat) (hn : rows.length = n) (hk : k ≤ n) : tsum rows n = tsum ((rows.drop 0).take k) k + tsum ((rows.drop k).take (n - k)) (n - k) := by
  unfold tsum
  rw [List.drop_zero, List.take_take, List.take_take, Nat.min_self, Nat.min_self, List.take_of_length_le (by omega : rows.length ≤ n), List.take_of_length_le (by rw [List.length_drop]; omega : (rows.drop k).length ≤ n - k), ← List.sum_append, ← List.map_append, List.take_append_drop]

/-- Sign answers the sign of the number. -/
theorem sign_mag {B p : Nat} {T s h l : Int} {w : World} (hb : BigAt B w p T) (hm : MagIs T s h l) : Calls Try.prog 10 #[.pointer (some ⟨p, 0, none⟩)] w fun e w' => e = .returned (.int .i64 s) ∧ w' = w := by
  obtain ⟨neg, ao, nn, cc, ws, hp, hN, hT, hneg, _, _⟩ := hb
  obtain ⟨c0, c1, _, _⟩ := cell_two hp
  have hlw : ws.length = nn := hN.1
  rcases mag_cases hm hT hN.2.1 (by rw [hlw]; exact hneg) with ⟨rfl, rfl, _, _⟩ | ⟨x, rfl, rfl, _⟩ | ⟨x, y, rfl, rfl, _⟩
  · obtain rfl : nn = 0 := by simpa using hlw.symm
    exact sign_zero p ao cc w c1
  · exact sign_neg p neg ao nn cc w c0 c1 (by simp at hlw; omega)
  · exact sign_neg p neg ao nn cc w c0 c1 (by simp at hlw; omega)

set_option maxHeartbeats 6400000 in
set_option maxRecDepth 100000 in
theorem cut_walk (a : Option Addr) (n c : Nat) (q : Int) (rows : List (List Int)) (w : World) (hv : MV w.heap.size w a n rows) (hn : n ≤ 9223372036854775807) (hl : ∀ i, i < n → (rows.getD i []).length ≤ 9223372036854775807)
    (hr : ∀ i j, -9223372036854775808 ≤ (rows.getD i []).getD j 0 ∧ (rows.getD i []).getD j 0 ≤ 9223372036854775807) :
    Calls Try.prog 4 #[.slice a n c, .int .i64 q] w fun e w' => e = .returned (.bool true) ∧ Below w.heap.size w w' := by
  have HV : Hid (MV w.heap.size w a n rows) := hv
  have HR : Hid (∀ i j, -9223372036854775808 ≤ (rows.getD i []).getD j 0 ∧ (rows.getD i []).getD j 0 ≤ 9223372036854775807) := hr
  have HL : Hid (∀ i, i < n → (rows.getD i []).length ≤ 9223372036854775807) := hl
  clear hv hr hl
  go_enter Try.func4, Try.ntmps4
  go_wp2_with fail
  refine (bytes12 a n c q rows w HV.out hn HL.out).mono ?_
  rintro e w' ⟨⟨r, rfl, hr⟩, hw⟩
  obtain rfl := hw.symm
  cases r
  · go_wp2
    go_ret
    exact ⟨rfl, Below.refl _ _⟩
  have HOK : Hid (SizeOK n rows) := hr rfl
  have hn1 : n ≤ 1048576 := HOK.out.1
  clear hr hw hn HL
  by_cases h16 : n ≤ 65536
  · by_cases h24 : 24 * n ≤ 1048576
    · go_wp2
      go_loop [5, 6] (fun v3 v4 => ∃ (k : Nat) (T : Int), (k : Int) ≤ n ∧ 0 ≤ T ∧ T ≤ 1048576 ∧ v3 = .int .i64 T ∧ v4 = .int .i64 k ∧ Hid (∀ i, i < k → (rows.getD i []).length ≤ 131072)) (fun _ v4 => n - (intOf v4).toNat)
      case atStart => exact ⟨0, 24 * n, by omega, by omega, by omega, rfl, rfl, fun i hi => by omega⟩
      case round =>
        obtain ⟨k, T, hk, hT0, hT1, rfl, rfl, HK⟩ := hrel
        by_cases hlt : k < n
        · obtain ⟨b, off, rfl, ra, rc, N, eN, hcell⟩ : ∃ b off, a = some ⟨b, off, none⟩ ∧ ∃ ra rc N, N = (rows.getD k []).length ∧ w.cell? ⟨b, off + k, none⟩ = some (.slice ra N rc) := by
            rcases HV.out.2 with h | ⟨b, off, h, hb, h2⟩
            · omega
            · obtain ⟨v, g1, ra, rc, g2, g3, g4⟩ := h2 k hlt
              exact ⟨b, off, h, ra, rc, _, rfl, by rw [← g2]; exact g1⟩
          have hN : N ≤ 1048576 := by rw [eN]; exact HOK.out.2 k hlt
          have EN : Hid (N = (rows.getD k []).length) := eN
          clear eN
          have hki : (k : Int) < (n : Int) := by omega
          by_cases hT : T + 8 * (N : Int) ≤ 1048576
          · have HK' : Hid (∀ i, i < k + 1 → (rows.getD i []).length ≤ 131072) := fun i hi => by
              by_cases e : i = k
              · rw [e, ← EN.out]; omega
              · exact HK.out i (by omega)
            go_wp2
            go_round
            case rel => exact ⟨k + 1, T + 8 * N, by omega, by omega, by omega, by go_num, by go_num, HK'⟩
            case measure => simp [intOf]; omega
          · go_wp2
            go_ret
            exact ⟨rfl, Below.refl _ _⟩
        · obtain rfl : k = n := by omega
          have HSM : Hid (Small rows) := small_of HV.out.1 h16 HK.out HR.out
          clear HK HOK HR hlt
          by_cases hq0 : q < 0
          · go_wp2
            go_ret
            exact ⟨rfl, Below.refl _ _⟩
          by_cases hq1 : (k : Int) < q
          · go_wp2
            go_ret
            exact ⟨rfl, Below.refl _ _⟩
          obtain ⟨j, rfl⟩ : ∃ j : Nat, q = j := ⟨q.toNat, by omega⟩
          have hjk : j ≤ k := by omega
          have hji : (j : Int) ≤ (k : Int) := by omega
          have hj0 : (0 : Int) ≤ (j : Int) := by omega
          clear hq0 hq1
          go_wp2_with fail
          refine (build_any a k c rows w HV.out h16 HSM.out.2.1).mono ?_
          rintro e w1 ⟨A, pp, rfl, hpp, hP⟩
          have HPL : Hid (PlanIn w.heap.size w w1 w.heap.size k A rows k) := hP
          have HB1 : Hid (Below w.heap.size w w1) := hP.bel
          have HPP : Hid (w1.cell? ⟨pp, 6, none⟩ = some (.slice (some ⟨w.heap.size, 0, none⟩) k k)) := hpp
          clear hP hpp
          go_wp2_with fail
          have hgr : Calls Try.prog 7 #[.pointer (some ⟨pp, 0, none⟩)] w1 fun e w' => ∃ p, e = .returned (.pointer (some ⟨p, 0, none⟩)) ∧ BigAt w1.heap.size w' p (tsum rows k) ∧ Below w1.heap.size w1 w' := by
            have hview := HPL.out.view (o := 0) (m := k) HV.out.1 (by omega) HSM.out
            rw [List.drop_zero, List.take_of_length_le (by rw [HV.out.1]; exact Nat.le_refl _)] at hview
            exact granted_some pp w.heap.size 0 k k rows w1 HPP.out hview HSM.out
          refine hgr.mono ?_
          rintro e w2 ⟨p, rfl, hbig, hb2⟩
          have HBG : Hid (BigAt w1.heap.size w2 p (tsum rows k)) := hbig
          have HB2 : Hid (Below w.heap.size w w2) := HB1.out.trans (hb2.mono HB1.out.size)
          have HP2 : Hid (PlanIn w.heap.size w w2 w.heap.size k A rows k) := HPL.out.below hb2
          have HPS : Hid (w1.heap.size ≤ w2.heap.size ∧ p < w2.heap.size ∧ w.heap.size < w2.heap.size) := by
            obtain ⟨neg, ao, nn, cc, ws, hp, _⟩ := hbig
            exact ⟨hb2.size, lt_of_block hp, HP2.out.top.lt⟩
          have hpp2 : w2.cell? ⟨pp, 6, none⟩ = some (.slice (some ⟨w.heap.size, 0, none⟩) k k) := (hb2.cell (p := ⟨pp, 6, none⟩) (World.block_lt_of_cell? w1 _ HPP.out)).trans HPP.out
          have hppl : pp < w2.heap.size := World.block_lt_of_cell? w2 _ hpp2
          clear hgr hbig hb2 HPL HPP HB1
          by_cases hje : j = k
          · subst hje
            go_wp2_with fail
            generalize hw4 : World.alloc (World.alloc w2 _) _ = w4
            have HB4 : Hid (Below w2.heap.size w2 w4) := by unfold Hid; rw [← hw4]; exact ((Below.refl _ _).alloc (Nat.le_refl _) _).alloc (by simp) _
            have cf : w4.cell? ⟨w2.heap.size, 6, none⟩ = some (.slice (some ⟨w.heap.size, 0, none⟩) j j) := by rw [← hw4]; simp
            have cb : w4.cell? ⟨w2.heap.size + 1, 6, none⟩ = some (.slice (some ⟨w.heap.size, 0, none⟩) 0 0) := by rw [← hw4]; simp
            clear hw4
            have hk0 : rows.length = j := HV.out.1
            have HS1 : Hid (Small ((rows.drop 0).take j)) := HSM.out.part 0 j
            have HS2 : Hid (Small ((rows.drop j).take (j - j))) := HSM.out.part j (j - j)
            have HF : Hid (Calls Try.prog 7 #[.pointer (some ⟨w2.heap.size, 0, none⟩)] w4 fun e w' => ∃ p, e = .returned (.pointer (some ⟨p, 0, none⟩)) ∧ BigAt w4.heap.size w' p (tsum ((rows.drop 0).take j) j) ∧ Below w4.heap.size w4 w') := by
              have hview := (HP2.out.below HB4.out).view (o := 0) (m := j) hk0 (by omega) HSM.out
              exact granted_some w2.heap.size w.heap.size 0 j j _ w4 cf hview HS1.out
            have HK : Hid (∀ W, Below w4.heap.size w4 W → Calls Try.prog 7 #[.pointer (some ⟨w2.heap.size + 1, 0, none⟩)] W fun e w' => ∃ p, e = .returned (.pointer (some ⟨p, 0, none⟩)) ∧ BigAt W.heap.size w' p (tsum ((rows.drop j).take (j - j)) (j - j)) ∧ Below W.heap.size W w') := by
              intro W hW
              have cb' : W.cell? ⟨w2.heap.size + 1, 6, none⟩ = some (.slice (some ⟨w.heap.size, 0, none⟩) 0 0) := (hW.cell (p := ⟨w2.heap.size + 1, 6, none⟩) (World.block_lt_of_cell? w4 _ cb)).trans cb
              rw [Nat.sub_self]
              exact granted_empty (w2.heap.size + 1) (some ⟨w.heap.size, 0, none⟩) 0 W cb'
            obtain ⟨V1, e1⟩ : ∃ V, V = tsum ((rows.drop 0).take j) j := ⟨_, rfl⟩
            obtain ⟨V2, e2⟩ : ∃ V, V = tsum ((rows.drop j).take (j - j)) (j - j) := ⟨_, rfl⟩
            have HSUM : Hid (tsum rows j = V1 + V2) := by unfold Hid; rw [e1, e2]; exact tsum_cut rows j j hk0 (by omega)
            have HBN : Hid ((V1.natAbs : Int) + V2.natAbs ≤ 340282366920938463463374607431768211455) := by
              have t1 := tsum_bound _ HS1.out j (by simp; omega)
              have t2 := tsum_bound _ HS2.out (j - j) (by simp)
              rw [← e1] at t1
              rw [← e2] at t2
              unfold Hid
              omega
            rw [← e1] at HF
            rw [← e2] at HK
            have HPW : Hid (p < w2.heap.size) := HPS.out.2.1
            clear e1 e2 cf cb hk0 HS1 HS2 HP2 hpp2 hppl HPS
            refine HF.out.mono ?_
            rintro e w5 ⟨p1, rfl, hb1, hbl1⟩
            have HBF : Hid (BigAt w4.heap.size w5 p1 V1) := hb1
            have HL5 : Hid (Below w4.heap.size w4 w5) := hbl1
            clear hb1 hbl1 HF
            go_wp2_with fail
            refine (HK.out w5 HL5.out).mono ?_
            rintro e w6 ⟨p2, rfl, hb2, hbl2⟩
            have HBB : Hid (BigAt w5.heap.size w6 p2 V2) := hb2
            have HBF6 : Hid (BigAt w4.heap.size w6 p1 V1) := HBF.out.below hbl2
            have HL6 : Hid (Below w2.heap.size w2 w6) := HB4.out.trans ((HL5.out.trans (hbl2.mono HL5.out.size)).mono HB4.out.size)
            have HB6 : Hid (Below w.heap.size w w6) := HB2.out.trans (HL6.out.mono HB2.out.size)
            clear hb2 hbl2 HK HBF
            go_wp2_with fail
            refine (sum_any a j c rows w6 (HV.out.below HB6.out (Nat.le_refl _)) HSM.out).mono ?_
            rintro e w7 ⟨⟨H, L, rfl, hsum⟩, hw7⟩
            obtain rfl := hw7.symm
            have HSU : Hid (SumIs H L (tsum rows j)) := hsum
            clear hsum hw7
            go_wp2_with fail
            have tb := tsum_bound rows HSM.out j (by rw [HV.out.1]; exact Nat.le_refl _)
            refine (signMag_any H L (tsum rows j) w6 HSU.out (by omega) (by omega)).mono ?_
            rintro e w7 ⟨⟨sg, mh, ml, rfl, hmag⟩, hw7⟩
            obtain rfl := hw7.symm
            have HMG : Hid (MagIs (tsum rows j) sg mh ml) := hmag
            clear hmag hw7 tb HSU
            go_wp2_with fail
            refine (sign_mag (HBG.out.below HL6.out) HMG.out).mono ?_
            rintro e w7 ⟨rfl, hw7⟩
            obtain rfl := hw7.symm
            clear hw7
            go_wp2_with fail
            refine (bigAdd w4.heap.size w5.heap.size p1 p2 V1 V2 w6 HBF6.out HBB.out HBN.out).mono ?_
            rintro e w7 ⟨rfl, hb7, hbl7⟩
            have HT7 : Hid (BigAt w4.heap.size w7 p1 (tsum rows j)) := by unfold Hid; rw [HSUM.out]; exact hb7
            have HL7 : Hid (Below w2.heap.size w2 w7) := HL6.out.trans (hbl7.mono HB4.out.size)
            have HPN : Hid (¬ p = p1) := by
              obtain ⟨_, _, _, _, _, _, _, _, _, hB, _⟩ := hb7
              have q1 := HPW.out
              have q2 := HB4.out.size
              unfold Hid
              omega
            clear hb7 hbl7
            go_wp2_with fail
            refine (bigCmp HPN.out (HBG.out.below HL7.out) HT7.out).mono ?_
            rintro e w8 ⟨rfl, hbl8⟩
            have HB8 : Hid (Below w.heap.size w w8) := HB2.out.trans ((HL7.out.trans (hbl8.mono HL7.out.size)).mono HB2.out.size)
            clear hbl8
            go_wp2
            go_ret
            exact ⟨rfl, HB8.out⟩
          · have hjl : (j : Int) < (k : Int) := by omega
            go_wp2_with fail
            generalize hw4 : World.alloc (World.alloc w2 _) _ = w4
            have HB4 : Hid (Below w2.heap.size w2 w4) := by unfold Hid; rw [← hw4]; exact ((Below.refl _ _).alloc (Nat.le_refl _) _).alloc (by simp) _
            have cf : w4.cell? ⟨w2.heap.size, 6, none⟩ = some (.slice (some ⟨w.heap.size, 0, none⟩) j k) := by rw [← hw4]; simp
            have cb : w4.cell? ⟨w2.heap.size + 1, 6, none⟩ = some (.slice (some ⟨w.heap.size, j * 21, none⟩) (k - j) (k - j)) := by rw [← hw4]; simp
            clear hw4
            have hk0 : rows.length = k := HV.out.1
            have HS1 : Hid (Small ((rows.drop 0).take j)) := HSM.out.part 0 j
            have HS2 : Hid (Small ((rows.drop j).take (k - j))) := HSM.out.part j (k - j)
            have HF : Hid (Calls Try.prog 7 #[.pointer (some ⟨w2.heap.size, 0, none⟩)] w4 fun e w' => ∃ p, e = .returned (.pointer (some ⟨p, 0, none⟩)) ∧ BigAt w4.heap.size w' p (tsum ((rows.drop 0).take j) j) ∧ Below w4.heap.size w4 w') := by
              have hview := (HP2.out.below HB4.out).view (o := 0) (m := j) hk0 (by omega) HSM.out
              exact granted_some w2.heap.size w.heap.size 0 j k _ w4 cf hview HS1.out
            have HK : Hid (∀ W, Below w4.heap.size w4 W → Calls Try.prog 7 #[.pointer (some ⟨w2.heap.size + 1, 0, none⟩)] W fun e w' => ∃ p, e = .returned (.pointer (some ⟨p, 0, none⟩)) ∧ BigAt W.heap.size w' p (tsum ((rows.drop j).take (k - j)) (k - j)) ∧ Below W.heap.size W w') := by
              intro W hW
              have cb' : W.cell? ⟨w2.heap.size + 1, 6, none⟩ = some (.slice (some ⟨w.heap.size, j * 21, none⟩) (k - j) (k - j)) := (hW.cell (p := ⟨w2.heap.size + 1, 6, none⟩) (World.block_lt_of_cell? w4 _ cb)).trans cb
              have hview := ((HP2.out.below HB4.out).below hW).view (o := j) (m := k - j) hk0 (by omega) HSM.out
              exact granted_some (w2.heap.size + 1) w.heap.size (j * 21) (k - j) (k - j) _ W cb' hview HS2.out
            obtain ⟨V1, e1⟩ : ∃ V, V = tsum ((rows.drop 0).take j) j := ⟨_, rfl⟩
            obtain ⟨V2, e2⟩ : ∃ V, V = tsum ((rows.drop j).take (k - j)) (k - j) := ⟨_, rfl⟩
            have HSUM : Hid (tsum rows k = V1 + V2) := by unfold Hid; rw [e1, e2]; exact tsum_cut rows k j hk0 (by omega)
            have HBN : Hid ((V1.natAbs : Int) + V2.natAbs ≤ 340282366920938463463374607431768211455) := by
              have t1 := tsum_bound _ HS1.out j (by simp; omega)
              have t2 := tsum_bound _ HS2.out (k - j) (by simp; omega)
              rw [← e1] at t1
              rw [← e2] at t2
              unfold Hid
              omega
            rw [← e1] at HF
            rw [← e2] at HK
            have HPW : Hid (p < w2.heap.size) := HPS.out.2.1
            clear e1 e2 cf cb hk0 HS1 HS2 HP2 hpp2 hppl HPS
            refine HF.out.mono ?_
            rintro e w5 ⟨p1, rfl, hb1, hbl1⟩
            have HBF : Hid (BigAt w4.heap.size w5 p1 V1) := hb1
            have HL5 : Hid (Below w4.heap.size w4 w5) := hbl1
            clear hb1 hbl1 HF
            go_wp2_with fail
            refine (HK.out w5 HL5.out).mono ?_
            rintro e w6 ⟨p2, rfl, hb2, hbl2⟩
            have HBB : Hid (BigAt w5.heap.size w6 p2 V2) := hb2
            have HBF6 : Hid (BigAt w4.heap.size w6 p1 V1) := HBF.out.below hbl2
            have HL6 : Hid (Below w2.heap.size w2 w6) := HB4.out.trans ((HL5.out.trans (hbl2.mono HL5.out.size)).mono HB4.out.size)
            have HB6 : Hid (Below w.heap.size w w6) := HB2.out.trans (HL6.out.mono HB2.out.size)
            clear hb2 hbl2 HK HBF
            go_wp2_with fail
            refine (sum_any a k c rows w6 (HV.out.below HB6.out (Nat.le_refl _)) HSM.out).mono ?_
            rintro e w7 ⟨⟨H, L, rfl, hsum⟩, hw7⟩
            obtain rfl := hw7.symm
            have HSU : Hid (SumIs H L (tsum rows k)) := hsum
            clear hsum hw7
            go_wp2_with fail
            have tb := tsum_bound rows HSM.out k (by rw [HV.out.1]; exact Nat.le_refl _)
            refine (signMag_any H L (tsum rows k) w6 HSU.out (by omega) (by omega)).mono ?_
            rintro e w7 ⟨⟨sg, mh, ml, rfl, hmag⟩, hw7⟩
            obtain rfl := hw7.symm
            have HMG : Hid (MagIs (tsum rows k) sg mh ml) := hmag
            clear hmag hw7 tb HSU
            go_wp2_with fail
            refine (sign_mag (HBG.out.below HL6.out) HMG.out).mono ?_
            rintro e w7 ⟨rfl, hw7⟩
            obtain rfl := hw7.symm
            clear hw7
            go_wp2_with fail
            refine (bigAdd w4.heap.size w5.heap.size p1 p2 V1 V2 w6 HBF6.out HBB.out HBN.out).mono ?_
            rintro e w7 ⟨rfl, hb7, hbl7⟩
            have HT7 : Hid (BigAt w4.heap.size w7 p1 (tsum rows k)) := by unfold Hid; rw [HSUM.out]; exact hb7
            have HL7 : Hid (Below w2.heap.size w2 w7) := HL6.out.trans (hbl7.mono HB4.out.size)
            have HPN : Hid (¬ p = p1) := by
              obtain ⟨_, _, _, _, _, _, _, _, _, hB, _⟩ := hb7
              have q1 := HPW.out
              have q2 := HB4.out.size
              unfold Hid
              omega
            clear hb7 hbl7
            go_wp2_with fail
            refine (bigCmp HPN.out (HBG.out.below HL7.out) HT7.out).mono ?_
            rintro e w8 ⟨rfl, hbl8⟩
            have HB8 : Hid (Below w.heap.size w w8) := HB2.out.trans ((HL7.out.trans (hbl8.mono HL7.out.size)).mono HB2.out.size)
            clear hbl8
            go_wp2
            go_ret
            exact ⟨rfl, HB8.out⟩
    · go_wp2
      go_ret
      exact ⟨rfl, Below.refl _ _⟩
  · go_wp2
    go_ret
    exact ⟨rfl, Below.refl _ _⟩

end Go.Proofs.Qxb6627829a
