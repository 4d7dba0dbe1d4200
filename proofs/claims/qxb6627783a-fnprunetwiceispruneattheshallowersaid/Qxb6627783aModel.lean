/-
  The walk of pruneModel: it returns what the automaton keeps, in a row of its own.
-/
import Derived.Test.Qxb6627783aLevel
namespace Go.Proofs.Qxb6627783a
open Go.RowKit

theorem info5 : (Try.prog.info? 5).map (fun i => (i.zero, i.size, i.bytes)) = some (some (.int .u8 0), 1, 1) := by kernel_rfl

def byteCells (xs : List Int) : List Value := xs.map (Value.int .u8)
theorem byteCells_append (xs ys : List Int) : byteCells (xs ++ ys) = byteCells xs ++ byteCells ys := by simp [byteCells]
theorem byteCells_one (ys : List Int) : ∀ u ∈ byteCells ys, u.oneCell' = true := by
  intro u hu
  obtain ⟨_, _, rfl⟩ := List.mem_map.1 hu
  rfl

/-- A slice of bytes that the call made. -/
def Gives (B : Nat) (w : World) (e : Ending) (xs : List Int) : Prop := ∃ ao cap, e = .returned (.slice ao xs.length cap) ∧ w.ownsRow B 5 1 (.slice ao xs.length cap) xs.length (byteCells xs)

def MIs (d : Int) (zs : List Int) (k : Nat) (X : List Int) : Prop := M d zs k = X
/-- What is kept, as the walk decides it. -/
def kp (d z l : Int) (q : Bool) : Bool := if q = false ∧ ¬ z = 34 ∧ isOpen z = false ∧ isShut z = true ∧ 0 < l then low d (l - 1) else low d l
theorem MIs.yes {d : Int} {zs : List Int} {k : Nat} {X : List Int} {l z : Int} {q e : Bool} (h : MIs d zs k X) (hs : StIs zs k l q e) (hk : k < zs.length) (hz : z = zs.getD k 0) (hkp : kp d z l q = true) : MIs d zs (k + 1) (X ++ [z]) := by
  obtain ⟨h1, h2, h3⟩ := hs
  have : keep d (S zs k) (zs.getD k 0) = true := by
    rw [← hkp]; unfold keep kp
    rw [h2, hz, ← h1]
    simp only [Int.natCast_pos]
  unfold MIs at *
  rw [M_succ d zs k hk, h, this, if_pos rfl, hz]
theorem MIs.no {d : Int} {zs : List Int} {k : Nat} {X : List Int} {l z : Int} {q e : Bool} (h : MIs d zs k X) (hs : StIs zs k l q e) (hk : k < zs.length) (hz : z = zs.getD k 0) (hkp : kp d z l q = false) : MIs d zs (k + 1) X := by
  obtain ⟨h1, h2, h3⟩ := hs
  have : keep d (S zs k) (zs.getD k 0) = false := by
    rw [← hkp]; unfold keep kp
    rw [h2, hz, ← h1]
    simp only [Int.natCast_pos]
  unfold MIs at *
  rw [M_succ d zs k hk, h, this]; simp
theorem MIs.len {d : Int} {zs : List Int} {k : Nat} {X : List Int} (h : MIs d zs k X) (hk : k ≤ zs.length) : X.length ≤ k := by
  rw [← h]; exact M_len d zs k hk

theorem low_yes {d l : Int} (h : d < 0 ∨ l ≤ d) : low d l = true := by simp only [low, Bool.or_eq_true, decide_eq_true_eq]; exact h
theorem low_no {d l : Int} (h : 0 ≤ d ∧ d < l) : low d l = false := by simp only [low, Bool.or_eq_false_iff, decide_eq_false_iff_not]; omega
theorem kp_ins (d z l : Int) : kp d z l true = low d l := by simp [kp]
theorem kp_shut {d z l : Int} (h : (z == 125) = true ∨ (z == 93) = true) (hl : 0 < l) : kp d z l false = low d (l - 1) := by
  simp only [beq_iff_eq] at h
  unfold kp
  rw [if_pos ⟨rfl, by omega, by simp [isOpen]; omega, by simp [isShut]; omega, hl⟩]
theorem kp_flat {d z l : Int} (h : ((z == 125) = false ∧ (z == 93) = false) ∨ l ≤ 0) : kp d z l false = low d l := by
  simp only [beq_eq_false_iff_ne, ne_eq] at h
  unfold kp
  rw [if_neg ?_]
  rintro ⟨_, _, _, h4, h5⟩
  simp [isShut] at h4
  omega
theorem levels3 (d l : Int) : d < 0 ∨ (0 ≤ d ∧ l ≤ d) ∨ (0 ≤ d ∧ d < l) := by omega
theorem levels4 (d l : Int) : d < 0 ∨ (0 ≤ d ∧ l ≤ d) ∨ (0 ≤ d ∧ d < l ∧ l - 1 ≤ d) ∨ (0 ≤ d ∧ d < l ∧ d < l - 1) := by omega

/-- The bytes that matter outside a string. -/
theorem kindsF (z : Int) : z = 34 ∨ z = 123 ∨ z = 91 ∨ z = 125 ∨ z = 93 ∨ (¬ z = 34 ∧ ¬ z = 123 ∧ ¬ z = 91 ∧ ¬ z = 125 ∧ ¬ z = 93) := by omega

/-- The step of the row. -/
theorem step_own {B : Nat} {w wr w1 : World} {n : Nat} {z : Int} {X : List Int} (hb : Below B w wr) (hB : B ≤ wr.heap.size)
    (hown : w1.ownsRow B 5 1 (.slice (some ⟨B, 0, none⟩) (X.length + 1) n) (X.length + 1) (byteCells X ++ [Value.int .u8 z])) (hg : (wr.alloc (.cells #[Value.int .u8 z] 5)).grownBy w1 (some B)) :
    w1.ownsRow B 5 1 (.slice (some ⟨B, 0, none⟩) (X ++ [z]).length n) (X ++ [z]).length (byteCells (X ++ [z])) ∧ Below B w w1 := by
  refine ⟨?_, (hb.alloc hB _).grown hg (by simp; omega) (fun k h => by cases h; exact Nat.le_refl _)⟩
  rw [byteCells_append, List.length_append]
  exact hown

set_option maxHeartbeats 6400000 in
theorem pruneModel_any (a : Option Addr) (n c : Nat) (d : Int) (zs : List Int) (w : World) (hn : n ≤ 1048576) (hd : -9223372036854775808 ≤ d ∧ d ≤ 9223372036854775807) (hv : ViewB w.heap.size w a n zs) :
    Calls Try.prog 6 #[.slice a n c, .int .i64 d] w fun e w' => Gives w.heap.size w' e (M d zs n) ∧ Below w.heap.size w w' := by
  have HV : Hid (ViewB w.heap.size w a n zs) := hv
  clear hv
  obtain ⟨i0, hi, hz0, hz1, hz2⟩ := info_parts info5
  go_enter Try.func6, Try.ntmps6
  go_wp2_with (at_make; refine wpList_make_own _ rfl (.const (.int .i64 0)) (.tmp 13) 22 rfl w.heap.size 5 i0 (.int .u8 0) 1 Try.underlying22 hi hz0 hz1 .i64 .i64 _ n rfl rfl ?e0 ?e1 ?e2 ?e3 ?_)
  case e0 => rfl
  case e1 => rw [hz2]; omega
  case e2 => unfold maxLen; omega
  case e3 => exact Nat.le_refl _
  intro w0 hown0 hgrow0
  have HB0 : Hid (Below w.heap.size w w0) := (Below.refl _ _).grown hgrow0 (Nat.le_refl _) (fun k h => by cases h)
  have HO0 : Hid (w0.ownsRow w.heap.size 5 1 (.slice (some ⟨w.heap.size, 0, none⟩) 0 n) 0 []) := hown0
  clear hown0 hgrow0
  go_wp2
  go_loopw [5, 6, 7, 8, 9] (fun v5 v6 v7 v8 v9 wr => ∃ (k : Nat) (l : Int) (q e : Bool) (X : List Int), (k : Int) ≤ n ∧ v5 = .slice (some ⟨w.heap.size, 0, none⟩) X.length n ∧ v6 = .int .i64 l ∧ v7 = .bool q ∧ v8 = .bool e ∧ v9 = .int .i64 k ∧
      Hid (StIs zs k l q e) ∧ Hid (MIs d zs k X) ∧ Hid (wr.ownsRow w.heap.size 5 1 (.slice (some ⟨w.heap.size, 0, none⟩) X.length n) X.length (byteCells X)) ∧ Hid (Below w.heap.size w wr)) (fun _ _ _ _ v9 _ => n - (intOf v9).toNat)
  case atStart => exact ⟨0, 0, false, false, [], by omega, rfl, rfl, rfl, rfl, rfl, StIs.start zs, rfl, HO0, HB0⟩
  case round =>
    obtain ⟨k, l, q, e, X, hk, rfl, rfl, rfl, rfl, rfl, HS, HM, HO, HB⟩ := hrel
    clear HO0 HB0 w0
    have hl := HS.out.le (by rw [HV.out.1]; omega)
    have hX := HM.out.len (by rw [HV.out.1]; omega)
    obtain ⟨hl0, hl1⟩ := hl
    by_cases hlt : k < n
    · obtain ⟨b, off, rfl, hc⟩ : ∃ b off, a = some ⟨b, off, none⟩ ∧ wr.cell? ⟨b, off + k, none⟩ = some (.int .u8 (zs.getD k 0)) := by
        rcases HV.out.2.2 with h | ⟨b, off, h, hb, h2⟩
        · omega
        · exact ⟨b, off, h, (HB.out.cell (p := ⟨b, off + k, none⟩) hb).trans (h2 k hlt)⟩
      have g2 := HV.out.2.1 k
      obtain ⟨z, ez⟩ : ∃ z, z = zs.getD k 0 := ⟨_, rfl⟩
      rw [← ez] at hc g2
      obtain ⟨z0, z1⟩ := g2
      have HK : Hid (k < zs.length) := by unfold Hid; rw [HV.out.1]; exact hlt
      have HN : Hid (StIs zs (k + 1) (nl z l q) (nq z q e) (ne z q e)) := HS.out.step HK.out z ez
      have HY : Hid (kp d z l q = true → MIs d zs (k + 1) (X ++ [z])) := fun h => HM.out.yes HS.out HK.out ez h
      have HX : Hid (kp d z l q = false → MIs d zs (k + 1) X) := fun h => HM.out.no HS.out HK.out ez h
      clear ez
      cases q with
      | true =>
        cases e with
        | true =>
          rcases levels3 d l with hh | hh | hh
          · go_wp2_with (at_builtin; refine wpList_append_fits _ rfl (.tmp 69) (.tmp 71) 22 rfl w.heap.size 5 i0 1 Try.underlying22 hi hz1 w.heap.size X.length n (byteCells X) rfl (HO.out.alloc _) ⟨wr.heap.size, 0, none⟩ 1 1 [.int .u8 z] rfl rfl (cell_one_new _ _ _) ?c21 ?c31 ?_)
            case c21 => first | rfl | (intro u hu; simp at hu; subst hu; rfl)
            case c31 => omega
            intro w1 hown1 hgrow1
            obtain ⟨HR1, HR2⟩ := step_own HB.out (Nat.le_trans (by omega) HB.out.size) hown1 hgrow1
            have HR3 : Hid _ := HR1
            have HR4 : Hid _ := HR2
            clear hown1 hgrow1 HR1 HR2
            go_wp2
            go_roundw
            case rel => exact ⟨k + 1, _, _, _, X ++ [z], by omega, by simp, rfl, rfl, rfl, by go_num, HN.out.fit (by simp [nl]) (by simp [nq]) (by simp [ne]), HY.out (by rw [kp_ins]; exact low_yes (by omega)), HR3.out, HR4.out⟩
            case measure => simp [intOf]; omega
          · go_wp2_with (at_builtin; refine wpList_append_fits _ rfl (.tmp 69) (.tmp 71) 22 rfl w.heap.size 5 i0 1 Try.underlying22 hi hz1 w.heap.size X.length n (byteCells X) rfl (HO.out.alloc _) ⟨wr.heap.size, 0, none⟩ 1 1 [.int .u8 z] rfl rfl (cell_one_new _ _ _) ?c22 ?c32 ?_)
            case c22 => first | rfl | (intro u hu; simp at hu; subst hu; rfl)
            case c32 => omega
            intro w1 hown1 hgrow1
            obtain ⟨HR1, HR2⟩ := step_own HB.out (Nat.le_trans (by omega) HB.out.size) hown1 hgrow1
            have HR3 : Hid _ := HR1
            have HR4 : Hid _ := HR2
            clear hown1 hgrow1 HR1 HR2
            go_wp2
            go_roundw
            case rel => exact ⟨k + 1, _, _, _, X ++ [z], by omega, by simp, rfl, rfl, rfl, by go_num, HN.out.fit (by simp [nl]) (by simp [nq]) (by simp [ne]), HY.out (by rw [kp_ins]; exact low_yes (by omega)), HR3.out, HR4.out⟩
            case measure => simp [intOf]; omega
          · go_wp2
            go_roundw
            case rel => exact ⟨k + 1, _, _, _, X, by omega, rfl, rfl, rfl, rfl, by go_num, HN.out.fit (by simp [nl]) (by simp [nq]) (by simp [ne]), HX.out (by rw [kp_ins]; exact low_no (by omega)), HO.out, HB.out⟩
            case measure => simp [intOf]; omega
        | false =>
          by_cases h92 : z = 92
          · have b1 : (z == 92) = true := by simp [h92]
            have HZ : Hid (z = 92) := h92
            clear h92
            rcases levels3 d l with hh | hh | hh
            · go_wp2_with (at_builtin; refine wpList_append_fits _ rfl (.tmp 69) (.tmp 71) 22 rfl w.heap.size 5 i0 1 Try.underlying22 hi hz1 w.heap.size X.length n (byteCells X) rfl (HO.out.alloc _) ⟨wr.heap.size, 0, none⟩ 1 1 [.int .u8 z] rfl rfl (cell_one_new _ _ _) ?c23 ?c33 ?_)
              case c23 => first | rfl | (intro u hu; simp at hu; subst hu; rfl)
              case c33 => omega
              intro w1 hown1 hgrow1
              obtain ⟨HR1, HR2⟩ := step_own HB.out (Nat.le_trans (by omega) HB.out.size) hown1 hgrow1
              have HR3 : Hid _ := HR1
              have HR4 : Hid _ := HR2
              clear hown1 hgrow1 HR1 HR2
              go_wp2
              go_roundw
              case rel => exact ⟨k + 1, _, _, _, X ++ [z], by omega, by simp, rfl, rfl, rfl, by go_num, HN.out.fit (by simp [nl]) (by simp [nq, HZ.out]) (by simp [ne, HZ.out]), HY.out (by rw [kp_ins]; exact low_yes (by omega)), HR3.out, HR4.out⟩
              case measure => simp [intOf]; omega
            · go_wp2_with (at_builtin; refine wpList_append_fits _ rfl (.tmp 69) (.tmp 71) 22 rfl w.heap.size 5 i0 1 Try.underlying22 hi hz1 w.heap.size X.length n (byteCells X) rfl (HO.out.alloc _) ⟨wr.heap.size, 0, none⟩ 1 1 [.int .u8 z] rfl rfl (cell_one_new _ _ _) ?c24 ?c34 ?_)
              case c24 => first | rfl | (intro u hu; simp at hu; subst hu; rfl)
              case c34 => omega
              intro w1 hown1 hgrow1
              obtain ⟨HR1, HR2⟩ := step_own HB.out (Nat.le_trans (by omega) HB.out.size) hown1 hgrow1
              have HR3 : Hid _ := HR1
              have HR4 : Hid _ := HR2
              clear hown1 hgrow1 HR1 HR2
              go_wp2
              go_roundw
              case rel => exact ⟨k + 1, _, _, _, X ++ [z], by omega, by simp, rfl, rfl, rfl, by go_num, HN.out.fit (by simp [nl]) (by simp [nq, HZ.out]) (by simp [ne, HZ.out]), HY.out (by rw [kp_ins]; exact low_yes (by omega)), HR3.out, HR4.out⟩
              case measure => simp [intOf]; omega
            · go_wp2
              go_roundw
              case rel => exact ⟨k + 1, _, _, _, X, by omega, rfl, rfl, rfl, rfl, by go_num, HN.out.fit (by simp [nl]) (by simp [nq, HZ.out]) (by simp [ne, HZ.out]), HX.out (by rw [kp_ins]; exact low_no (by omega)), HO.out, HB.out⟩
              case measure => simp [intOf]; omega
          · have b1 : (z == 92) = false := by simp [h92]
            by_cases h34 : z = 34
            · have b2 : (z == 34) = true := by simp [h34]
              have HZ : Hid (z = 34) := h34
              clear h92 h34
              rcases levels3 d l with hh | hh | hh
              · go_wp2_with (at_builtin; refine wpList_append_fits _ rfl (.tmp 69) (.tmp 71) 22 rfl w.heap.size 5 i0 1 Try.underlying22 hi hz1 w.heap.size X.length n (byteCells X) rfl (HO.out.alloc _) ⟨wr.heap.size, 0, none⟩ 1 1 [.int .u8 z] rfl rfl (cell_one_new _ _ _) ?c25 ?c35 ?_)
                case c25 => first | rfl | (intro u hu; simp at hu; subst hu; rfl)
                case c35 => omega
                intro w1 hown1 hgrow1
                obtain ⟨HR1, HR2⟩ := step_own HB.out (Nat.le_trans (by omega) HB.out.size) hown1 hgrow1
                have HR3 : Hid _ := HR1
                have HR4 : Hid _ := HR2
                clear hown1 hgrow1 HR1 HR2
                go_wp2
                go_roundw
                case rel => exact ⟨k + 1, _, _, _, X ++ [z], by omega, by simp, rfl, rfl, rfl, by go_num, HN.out.fit (by simp [nl]) (by simp [nq, HZ.out]) (by simp [ne, HZ.out]), HY.out (by rw [kp_ins]; exact low_yes (by omega)), HR3.out, HR4.out⟩
                case measure => simp [intOf]; omega
              · go_wp2_with (at_builtin; refine wpList_append_fits _ rfl (.tmp 69) (.tmp 71) 22 rfl w.heap.size 5 i0 1 Try.underlying22 hi hz1 w.heap.size X.length n (byteCells X) rfl (HO.out.alloc _) ⟨wr.heap.size, 0, none⟩ 1 1 [.int .u8 z] rfl rfl (cell_one_new _ _ _) ?c26 ?c36 ?_)
                case c26 => first | rfl | (intro u hu; simp at hu; subst hu; rfl)
                case c36 => omega
                intro w1 hown1 hgrow1
                obtain ⟨HR1, HR2⟩ := step_own HB.out (Nat.le_trans (by omega) HB.out.size) hown1 hgrow1
                have HR3 : Hid _ := HR1
                have HR4 : Hid _ := HR2
                clear hown1 hgrow1 HR1 HR2
                go_wp2
                go_roundw
                case rel => exact ⟨k + 1, _, _, _, X ++ [z], by omega, by simp, rfl, rfl, rfl, by go_num, HN.out.fit (by simp [nl]) (by simp [nq, HZ.out]) (by simp [ne, HZ.out]), HY.out (by rw [kp_ins]; exact low_yes (by omega)), HR3.out, HR4.out⟩
                case measure => simp [intOf]; omega
              · go_wp2
                go_roundw
                case rel => exact ⟨k + 1, _, _, _, X, by omega, rfl, rfl, rfl, rfl, by go_num, HN.out.fit (by simp [nl]) (by simp [nq, HZ.out]) (by simp [ne, HZ.out]), HX.out (by rw [kp_ins]; exact low_no (by omega)), HO.out, HB.out⟩
                case measure => simp [intOf]; omega
            · have b2 : (z == 34) = false := by simp [h34]
              have HZ : Hid (¬ z = 34 ∧ ¬ z = 92) := ⟨h34, h92⟩
              clear h92 h34
              rcases levels3 d l with hh | hh | hh
              · go_wp2_with (at_builtin; refine wpList_append_fits _ rfl (.tmp 69) (.tmp 71) 22 rfl w.heap.size 5 i0 1 Try.underlying22 hi hz1 w.heap.size X.length n (byteCells X) rfl (HO.out.alloc _) ⟨wr.heap.size, 0, none⟩ 1 1 [.int .u8 z] rfl rfl (cell_one_new _ _ _) ?c27 ?c37 ?_)
                case c27 => first | rfl | (intro u hu; simp at hu; subst hu; rfl)
                case c37 => omega
                intro w1 hown1 hgrow1
                obtain ⟨HR1, HR2⟩ := step_own HB.out (Nat.le_trans (by omega) HB.out.size) hown1 hgrow1
                have HR3 : Hid _ := HR1
                have HR4 : Hid _ := HR2
                clear hown1 hgrow1 HR1 HR2
                go_wp2
                go_roundw
                case rel => exact ⟨k + 1, _, _, _, X ++ [z], by omega, by simp, rfl, rfl, rfl, by go_num, HN.out.fit (by simp [nl]) (by simp [nq, HZ.out.1]) (by simp [ne, HZ.out.2]), HY.out (by rw [kp_ins]; exact low_yes (by omega)), HR3.out, HR4.out⟩
                case measure => simp [intOf]; omega
              · go_wp2_with (at_builtin; refine wpList_append_fits _ rfl (.tmp 69) (.tmp 71) 22 rfl w.heap.size 5 i0 1 Try.underlying22 hi hz1 w.heap.size X.length n (byteCells X) rfl (HO.out.alloc _) ⟨wr.heap.size, 0, none⟩ 1 1 [.int .u8 z] rfl rfl (cell_one_new _ _ _) ?c28 ?c38 ?_)
                case c28 => first | rfl | (intro u hu; simp at hu; subst hu; rfl)
                case c38 => omega
                intro w1 hown1 hgrow1
                obtain ⟨HR1, HR2⟩ := step_own HB.out (Nat.le_trans (by omega) HB.out.size) hown1 hgrow1
                have HR3 : Hid _ := HR1
                have HR4 : Hid _ := HR2
                clear hown1 hgrow1 HR1 HR2
                go_wp2
                go_roundw
                case rel => exact ⟨k + 1, _, _, _, X ++ [z], by omega, by simp, rfl, rfl, rfl, by go_num, HN.out.fit (by simp [nl]) (by simp [nq, HZ.out.1]) (by simp [ne, HZ.out.2]), HY.out (by rw [kp_ins]; exact low_yes (by omega)), HR3.out, HR4.out⟩
                case measure => simp [intOf]; omega
              · go_wp2
                go_roundw
                case rel => exact ⟨k + 1, _, _, _, X, by omega, rfl, rfl, rfl, rfl, by go_num, HN.out.fit (by simp [nl]) (by simp [nq, HZ.out.1]) (by simp [ne, HZ.out.2]), HX.out (by rw [kp_ins]; exact low_no (by omega)), HO.out, HB.out⟩
                case measure => simp [intOf]; omega
      | false =>
        rcases kindsF z with hz | hz | hz | hz | hz | hz
        · have b34 : (z == 34) = true := by simp [hz]
          have b123 : (z == 123) = false := by simp [hz]
          have b91 : (z == 91) = false := by simp [hz]
          have b125 : (z == 125) = false := by simp [hz]
          have b93 : (z == 93) = false := by simp [hz]
          have HZ : Hid (z = 34) := hz
          clear hz
          rcases levels3 d l with hh | hh | hh
          · go_wp2_with (at_builtin; refine wpList_append_fits _ rfl (.tmp 69) (.tmp 71) 22 rfl w.heap.size 5 i0 1 Try.underlying22 hi hz1 w.heap.size X.length n (byteCells X) rfl (HO.out.alloc _) ⟨wr.heap.size, 0, none⟩ 1 1 [.int .u8 z] rfl rfl (cell_one_new _ _ _) ?c29 ?c39 ?_)
            case c29 => first | rfl | (intro u hu; simp at hu; subst hu; rfl)
            case c39 => omega
            intro w1 hown1 hgrow1
            obtain ⟨HR1, HR2⟩ := step_own HB.out (Nat.le_trans (by omega) HB.out.size) hown1 hgrow1
            have HR3 : Hid _ := HR1
            have HR4 : Hid _ := HR2
            clear hown1 hgrow1 HR1 HR2
            go_wp2
            go_roundw
            case rel => exact ⟨k + 1, _, _, _, X ++ [z], by omega, by simp, rfl, rfl, rfl, by go_num, HN.out.fit (by simp [nl, HZ.out]) (by simp [nq, HZ.out]) (by simp [ne]), HY.out (by rw [kp_flat (.inl ⟨b125, b93⟩)]; exact low_yes (by omega)), HR3.out, HR4.out⟩
            case measure => simp [intOf]; omega
          · go_wp2_with (at_builtin; refine wpList_append_fits _ rfl (.tmp 69) (.tmp 71) 22 rfl w.heap.size 5 i0 1 Try.underlying22 hi hz1 w.heap.size X.length n (byteCells X) rfl (HO.out.alloc _) ⟨wr.heap.size, 0, none⟩ 1 1 [.int .u8 z] rfl rfl (cell_one_new _ _ _) ?c210 ?c310 ?_)
            case c210 => first | rfl | (intro u hu; simp at hu; subst hu; rfl)
            case c310 => omega
            intro w1 hown1 hgrow1
            obtain ⟨HR1, HR2⟩ := step_own HB.out (Nat.le_trans (by omega) HB.out.size) hown1 hgrow1
            have HR3 : Hid _ := HR1
            have HR4 : Hid _ := HR2
            clear hown1 hgrow1 HR1 HR2
            go_wp2
            go_roundw
            case rel => exact ⟨k + 1, _, _, _, X ++ [z], by omega, by simp, rfl, rfl, rfl, by go_num, HN.out.fit (by simp [nl, HZ.out]) (by simp [nq, HZ.out]) (by simp [ne]), HY.out (by rw [kp_flat (.inl ⟨b125, b93⟩)]; exact low_yes (by omega)), HR3.out, HR4.out⟩
            case measure => simp [intOf]; omega
          · go_wp2
            go_roundw
            case rel => exact ⟨k + 1, _, _, _, X, by omega, rfl, rfl, rfl, rfl, by go_num, HN.out.fit (by simp [nl, HZ.out]) (by simp [nq, HZ.out]) (by simp [ne]), HX.out (by rw [kp_flat (.inl ⟨b125, b93⟩)]; exact low_no (by omega)), HO.out, HB.out⟩
            case measure => simp [intOf]; omega
        · have b34 : (z == 34) = false := by simp [hz]
          have b123 : (z == 123) = true := by simp [hz]
          have b91 : (z == 91) = false := by simp [hz]
          have b125 : (z == 125) = false := by simp [hz]
          have b93 : (z == 93) = false := by simp [hz]
          have HZ : Hid (z = 123) := hz
          clear hz
          rcases levels3 d l with hh | hh | hh
          · go_wp2_with (at_builtin; refine wpList_append_fits _ rfl (.tmp 69) (.tmp 71) 22 rfl w.heap.size 5 i0 1 Try.underlying22 hi hz1 w.heap.size X.length n (byteCells X) rfl (HO.out.alloc _) ⟨wr.heap.size, 0, none⟩ 1 1 [.int .u8 z] rfl rfl (cell_one_new _ _ _) ?c211 ?c311 ?_)
            case c211 => first | rfl | (intro u hu; simp at hu; subst hu; rfl)
            case c311 => omega
            intro w1 hown1 hgrow1
            obtain ⟨HR1, HR2⟩ := step_own HB.out (Nat.le_trans (by omega) HB.out.size) hown1 hgrow1
            have HR3 : Hid _ := HR1
            have HR4 : Hid _ := HR2
            clear hown1 hgrow1 HR1 HR2
            go_wp2
            go_roundw
            case rel => exact ⟨k + 1, _, _, _, X ++ [z], by omega, by simp, rfl, rfl, rfl, by go_num, HN.out.fit (by simp [nl, isOpen, HZ.out]) (by simp [nq, HZ.out]) (by simp [ne]), HY.out (by rw [kp_flat (.inl ⟨b125, b93⟩)]; exact low_yes (by omega)), HR3.out, HR4.out⟩
            case measure => simp [intOf]; omega
          · go_wp2_with (at_builtin; refine wpList_append_fits _ rfl (.tmp 69) (.tmp 71) 22 rfl w.heap.size 5 i0 1 Try.underlying22 hi hz1 w.heap.size X.length n (byteCells X) rfl (HO.out.alloc _) ⟨wr.heap.size, 0, none⟩ 1 1 [.int .u8 z] rfl rfl (cell_one_new _ _ _) ?c212 ?c312 ?_)
            case c212 => first | rfl | (intro u hu; simp at hu; subst hu; rfl)
            case c312 => omega
            intro w1 hown1 hgrow1
            obtain ⟨HR1, HR2⟩ := step_own HB.out (Nat.le_trans (by omega) HB.out.size) hown1 hgrow1
            have HR3 : Hid _ := HR1
            have HR4 : Hid _ := HR2
            clear hown1 hgrow1 HR1 HR2
            go_wp2
            go_roundw
            case rel => exact ⟨k + 1, _, _, _, X ++ [z], by omega, by simp, rfl, rfl, rfl, by go_num, HN.out.fit (by simp [nl, isOpen, HZ.out]) (by simp [nq, HZ.out]) (by simp [ne]), HY.out (by rw [kp_flat (.inl ⟨b125, b93⟩)]; exact low_yes (by omega)), HR3.out, HR4.out⟩
            case measure => simp [intOf]; omega
          · go_wp2
            go_roundw
            case rel => exact ⟨k + 1, _, _, _, X, by omega, rfl, rfl, rfl, rfl, by go_num, HN.out.fit (by simp [nl, isOpen, HZ.out]) (by simp [nq, HZ.out]) (by simp [ne]), HX.out (by rw [kp_flat (.inl ⟨b125, b93⟩)]; exact low_no (by omega)), HO.out, HB.out⟩
            case measure => simp [intOf]; omega
        · have b34 : (z == 34) = false := by simp [hz]
          have b123 : (z == 123) = false := by simp [hz]
          have b91 : (z == 91) = true := by simp [hz]
          have b125 : (z == 125) = false := by simp [hz]
          have b93 : (z == 93) = false := by simp [hz]
          have HZ : Hid (z = 91) := hz
          clear hz
          rcases levels3 d l with hh | hh | hh
          · go_wp2_with (at_builtin; refine wpList_append_fits _ rfl (.tmp 69) (.tmp 71) 22 rfl w.heap.size 5 i0 1 Try.underlying22 hi hz1 w.heap.size X.length n (byteCells X) rfl (HO.out.alloc _) ⟨wr.heap.size, 0, none⟩ 1 1 [.int .u8 z] rfl rfl (cell_one_new _ _ _) ?c213 ?c313 ?_)
            case c213 => first | rfl | (intro u hu; simp at hu; subst hu; rfl)
            case c313 => omega
            intro w1 hown1 hgrow1
            obtain ⟨HR1, HR2⟩ := step_own HB.out (Nat.le_trans (by omega) HB.out.size) hown1 hgrow1
            have HR3 : Hid _ := HR1
            have HR4 : Hid _ := HR2
            clear hown1 hgrow1 HR1 HR2
            go_wp2
            go_roundw
            case rel => exact ⟨k + 1, _, _, _, X ++ [z], by omega, by simp, rfl, rfl, rfl, by go_num, HN.out.fit (by simp [nl, isOpen, HZ.out]) (by simp [nq, HZ.out]) (by simp [ne]), HY.out (by rw [kp_flat (.inl ⟨b125, b93⟩)]; exact low_yes (by omega)), HR3.out, HR4.out⟩
            case measure => simp [intOf]; omega
          · go_wp2_with (at_builtin; refine wpList_append_fits _ rfl (.tmp 69) (.tmp 71) 22 rfl w.heap.size 5 i0 1 Try.underlying22 hi hz1 w.heap.size X.length n (byteCells X) rfl (HO.out.alloc _) ⟨wr.heap.size, 0, none⟩ 1 1 [.int .u8 z] rfl rfl (cell_one_new _ _ _) ?c214 ?c314 ?_)
            case c214 => first | rfl | (intro u hu; simp at hu; subst hu; rfl)
            case c314 => omega
            intro w1 hown1 hgrow1
            obtain ⟨HR1, HR2⟩ := step_own HB.out (Nat.le_trans (by omega) HB.out.size) hown1 hgrow1
            have HR3 : Hid _ := HR1
            have HR4 : Hid _ := HR2
            clear hown1 hgrow1 HR1 HR2
            go_wp2
            go_roundw
            case rel => exact ⟨k + 1, _, _, _, X ++ [z], by omega, by simp, rfl, rfl, rfl, by go_num, HN.out.fit (by simp [nl, isOpen, HZ.out]) (by simp [nq, HZ.out]) (by simp [ne]), HY.out (by rw [kp_flat (.inl ⟨b125, b93⟩)]; exact low_yes (by omega)), HR3.out, HR4.out⟩
            case measure => simp [intOf]; omega
          · go_wp2
            go_roundw
            case rel => exact ⟨k + 1, _, _, _, X, by omega, rfl, rfl, rfl, rfl, by go_num, HN.out.fit (by simp [nl, isOpen, HZ.out]) (by simp [nq, HZ.out]) (by simp [ne]), HX.out (by rw [kp_flat (.inl ⟨b125, b93⟩)]; exact low_no (by omega)), HO.out, HB.out⟩
            case measure => simp [intOf]; omega
        · have b34 : (z == 34) = false := by simp [hz]
          have b123 : (z == 123) = false := by simp [hz]
          have b91 : (z == 91) = false := by simp [hz]
          have b125 : (z == 125) = true := by simp [hz]
          have b93 : (z == 93) = false := by simp [hz]
          have HZ : Hid (z = 125) := hz
          clear hz
          rcases Int.lt_or_le 0 l with hpos | hpos
          · rcases levels4 d l with hh | hh | hh | hh
            · go_wp2_with (at_builtin; refine wpList_append_fits _ rfl (.tmp 69) (.tmp 71) 22 rfl w.heap.size 5 i0 1 Try.underlying22 hi hz1 w.heap.size X.length n (byteCells X) rfl (HO.out.alloc _) ⟨wr.heap.size, 0, none⟩ 1 1 [.int .u8 z] rfl rfl (cell_one_new _ _ _) ?c215 ?c315 ?_)
              case c215 => first | rfl | (intro u hu; simp at hu; subst hu; rfl)
              case c315 => omega
              intro w1 hown1 hgrow1
              obtain ⟨HR1, HR2⟩ := step_own HB.out (Nat.le_trans (by omega) HB.out.size) hown1 hgrow1
              have HR3 : Hid _ := HR1
              have HR4 : Hid _ := HR2
              clear hown1 hgrow1 HR1 HR2
              go_wp2
              go_roundw
              case rel => exact ⟨k + 1, _, _, _, X ++ [z], by omega, by simp, rfl, rfl, rfl, by go_num, HN.out.fit (by have := HZ.out; simp only [nl, isOpen, isShut, this]; simp; omega) (by simp [nq, HZ.out]) (by simp [ne]), HY.out (by rw [kp_shut (.inl b125) (by omega)]; exact low_yes (by omega)), HR3.out, HR4.out⟩
              case measure => simp [intOf]; omega
            · go_wp2_with (at_builtin; refine wpList_append_fits _ rfl (.tmp 69) (.tmp 71) 22 rfl w.heap.size 5 i0 1 Try.underlying22 hi hz1 w.heap.size X.length n (byteCells X) rfl (HO.out.alloc _) ⟨wr.heap.size, 0, none⟩ 1 1 [.int .u8 z] rfl rfl (cell_one_new _ _ _) ?c216 ?c316 ?_)
              case c216 => first | rfl | (intro u hu; simp at hu; subst hu; rfl)
              case c316 => omega
              intro w1 hown1 hgrow1
              obtain ⟨HR1, HR2⟩ := step_own HB.out (Nat.le_trans (by omega) HB.out.size) hown1 hgrow1
              have HR3 : Hid _ := HR1
              have HR4 : Hid _ := HR2
              clear hown1 hgrow1 HR1 HR2
              go_wp2
              go_roundw
              case rel => exact ⟨k + 1, _, _, _, X ++ [z], by omega, by simp, rfl, rfl, rfl, by go_num, HN.out.fit (by have := HZ.out; simp only [nl, isOpen, isShut, this]; simp; omega) (by simp [nq, HZ.out]) (by simp [ne]), HY.out (by rw [kp_shut (.inl b125) (by omega)]; exact low_yes (by omega)), HR3.out, HR4.out⟩
              case measure => simp [intOf]; omega
            · go_wp2_with (at_builtin; refine wpList_append_fits _ rfl (.tmp 69) (.tmp 71) 22 rfl w.heap.size 5 i0 1 Try.underlying22 hi hz1 w.heap.size X.length n (byteCells X) rfl (HO.out.alloc _) ⟨wr.heap.size, 0, none⟩ 1 1 [.int .u8 z] rfl rfl (cell_one_new _ _ _) ?c217 ?c317 ?_)
              case c217 => first | rfl | (intro u hu; simp at hu; subst hu; rfl)
              case c317 => omega
              intro w1 hown1 hgrow1
              obtain ⟨HR1, HR2⟩ := step_own HB.out (Nat.le_trans (by omega) HB.out.size) hown1 hgrow1
              have HR3 : Hid _ := HR1
              have HR4 : Hid _ := HR2
              clear hown1 hgrow1 HR1 HR2
              go_wp2
              go_roundw
              case rel => exact ⟨k + 1, _, _, _, X ++ [z], by omega, by simp, rfl, rfl, rfl, by go_num, HN.out.fit (by have := HZ.out; simp only [nl, isOpen, isShut, this]; simp; omega) (by simp [nq, HZ.out]) (by simp [ne]), HY.out (by rw [kp_shut (.inl b125) (by omega)]; exact low_yes (by omega)), HR3.out, HR4.out⟩
              case measure => simp [intOf]; omega
            · go_wp2
              go_roundw
              case rel => exact ⟨k + 1, _, _, _, X, by omega, rfl, rfl, rfl, rfl, by go_num, HN.out.fit (by have := HZ.out; simp only [nl, isOpen, isShut, this]; simp; omega) (by simp [nq, HZ.out]) (by simp [ne]), HX.out (by rw [kp_shut (.inl b125) (by omega)]; exact low_no (by omega)), HO.out, HB.out⟩
              case measure => simp [intOf]; omega
          · rcases levels3 d l with hh | hh | hh
            · go_wp2_with (at_builtin; refine wpList_append_fits _ rfl (.tmp 69) (.tmp 71) 22 rfl w.heap.size 5 i0 1 Try.underlying22 hi hz1 w.heap.size X.length n (byteCells X) rfl (HO.out.alloc _) ⟨wr.heap.size, 0, none⟩ 1 1 [.int .u8 z] rfl rfl (cell_one_new _ _ _) ?c218 ?c318 ?_)
              case c218 => first | rfl | (intro u hu; simp at hu; subst hu; rfl)
              case c318 => omega
              intro w1 hown1 hgrow1
              obtain ⟨HR1, HR2⟩ := step_own HB.out (Nat.le_trans (by omega) HB.out.size) hown1 hgrow1
              have HR3 : Hid _ := HR1
              have HR4 : Hid _ := HR2
              clear hown1 hgrow1 HR1 HR2
              go_wp2
              go_roundw
              case rel => exact ⟨k + 1, _, _, _, X ++ [z], by omega, by simp, rfl, rfl, rfl, by go_num, HN.out.fit (by have := HZ.out; simp only [nl, isOpen, isShut, this]; simp; omega) (by simp [nq, HZ.out]) (by simp [ne]), HY.out (by rw [kp_flat (.inr (by omega))]; exact low_yes (by omega)), HR3.out, HR4.out⟩
              case measure => simp [intOf]; omega
            · go_wp2_with (at_builtin; refine wpList_append_fits _ rfl (.tmp 69) (.tmp 71) 22 rfl w.heap.size 5 i0 1 Try.underlying22 hi hz1 w.heap.size X.length n (byteCells X) rfl (HO.out.alloc _) ⟨wr.heap.size, 0, none⟩ 1 1 [.int .u8 z] rfl rfl (cell_one_new _ _ _) ?c219 ?c319 ?_)
              case c219 => first | rfl | (intro u hu; simp at hu; subst hu; rfl)
              case c319 => omega
              intro w1 hown1 hgrow1
              obtain ⟨HR1, HR2⟩ := step_own HB.out (Nat.le_trans (by omega) HB.out.size) hown1 hgrow1
              have HR3 : Hid _ := HR1
              have HR4 : Hid _ := HR2
              clear hown1 hgrow1 HR1 HR2
              go_wp2
              go_roundw
              case rel => exact ⟨k + 1, _, _, _, X ++ [z], by omega, by simp, rfl, rfl, rfl, by go_num, HN.out.fit (by have := HZ.out; simp only [nl, isOpen, isShut, this]; simp; omega) (by simp [nq, HZ.out]) (by simp [ne]), HY.out (by rw [kp_flat (.inr (by omega))]; exact low_yes (by omega)), HR3.out, HR4.out⟩
              case measure => simp [intOf]; omega
            · exfalso; omega
        · have b34 : (z == 34) = false := by simp [hz]
          have b123 : (z == 123) = false := by simp [hz]
          have b91 : (z == 91) = false := by simp [hz]
          have b125 : (z == 125) = false := by simp [hz]
          have b93 : (z == 93) = true := by simp [hz]
          have HZ : Hid (z = 93) := hz
          clear hz
          rcases Int.lt_or_le 0 l with hpos | hpos
          · rcases levels4 d l with hh | hh | hh | hh
            · go_wp2_with (at_builtin; refine wpList_append_fits _ rfl (.tmp 69) (.tmp 71) 22 rfl w.heap.size 5 i0 1 Try.underlying22 hi hz1 w.heap.size X.length n (byteCells X) rfl (HO.out.alloc _) ⟨wr.heap.size, 0, none⟩ 1 1 [.int .u8 z] rfl rfl (cell_one_new _ _ _) ?c220 ?c320 ?_)
              case c220 => first | rfl | (intro u hu; simp at hu; subst hu; rfl)
              case c320 => omega
              intro w1 hown1 hgrow1
              obtain ⟨HR1, HR2⟩ := step_own HB.out (Nat.le_trans (by omega) HB.out.size) hown1 hgrow1
              have HR3 : Hid _ := HR1
              have HR4 : Hid _ := HR2
              clear hown1 hgrow1 HR1 HR2
              go_wp2
              go_roundw
              case rel => exact ⟨k + 1, _, _, _, X ++ [z], by omega, by simp, rfl, rfl, rfl, by go_num, HN.out.fit (by have := HZ.out; simp only [nl, isOpen, isShut, this]; simp; omega) (by simp [nq, HZ.out]) (by simp [ne]), HY.out (by rw [kp_shut (.inr b93) (by omega)]; exact low_yes (by omega)), HR3.out, HR4.out⟩
              case measure => simp [intOf]; omega
            · go_wp2_with (at_builtin; refine wpList_append_fits _ rfl (.tmp 69) (.tmp 71) 22 rfl w.heap.size 5 i0 1 Try.underlying22 hi hz1 w.heap.size X.length n (byteCells X) rfl (HO.out.alloc _) ⟨wr.heap.size, 0, none⟩ 1 1 [.int .u8 z] rfl rfl (cell_one_new _ _ _) ?c221 ?c321 ?_)
              case c221 => first | rfl | (intro u hu; simp at hu; subst hu; rfl)
              case c321 => omega
              intro w1 hown1 hgrow1
              obtain ⟨HR1, HR2⟩ := step_own HB.out (Nat.le_trans (by omega) HB.out.size) hown1 hgrow1
              have HR3 : Hid _ := HR1
              have HR4 : Hid _ := HR2
              clear hown1 hgrow1 HR1 HR2
              go_wp2
              go_roundw
              case rel => exact ⟨k + 1, _, _, _, X ++ [z], by omega, by simp, rfl, rfl, rfl, by go_num, HN.out.fit (by have := HZ.out; simp only [nl, isOpen, isShut, this]; simp; omega) (by simp [nq, HZ.out]) (by simp [ne]), HY.out (by rw [kp_shut (.inr b93) (by omega)]; exact low_yes (by omega)), HR3.out, HR4.out⟩
              case measure => simp [intOf]; omega
            · go_wp2_with (at_builtin; refine wpList_append_fits _ rfl (.tmp 69) (.tmp 71) 22 rfl w.heap.size 5 i0 1 Try.underlying22 hi hz1 w.heap.size X.length n (byteCells X) rfl (HO.out.alloc _) ⟨wr.heap.size, 0, none⟩ 1 1 [.int .u8 z] rfl rfl (cell_one_new _ _ _) ?c222 ?c322 ?_)
              case c222 => first | rfl | (intro u hu; simp at hu; subst hu; rfl)
              case c322 => omega
              intro w1 hown1 hgrow1
              obtain ⟨HR1, HR2⟩ := step_own HB.out (Nat.le_trans (by omega) HB.out.size) hown1 hgrow1
              have HR3 : Hid _ := HR1
              have HR4 : Hid _ := HR2
              clear hown1 hgrow1 HR1 HR2
              go_wp2
              go_roundw
              case rel => exact ⟨k + 1, _, _, _, X ++ [z], by omega, by simp, rfl, rfl, rfl, by go_num, HN.out.fit (by have := HZ.out; simp only [nl, isOpen, isShut, this]; simp; omega) (by simp [nq, HZ.out]) (by simp [ne]), HY.out (by rw [kp_shut (.inr b93) (by omega)]; exact low_yes (by omega)), HR3.out, HR4.out⟩
              case measure => simp [intOf]; omega
            · go_wp2
              go_roundw
              case rel => exact ⟨k + 1, _, _, _, X, by omega, rfl, rfl, rfl, rfl, by go_num, HN.out.fit (by have := HZ.out; simp only [nl, isOpen, isShut, this]; simp; omega) (by simp [nq, HZ.out]) (by simp [ne]), HX.out (by rw [kp_shut (.inr b93) (by omega)]; exact low_no (by omega)), HO.out, HB.out⟩
              case measure => simp [intOf]; omega
          · rcases levels3 d l with hh | hh | hh
            · go_wp2_with (at_builtin; refine wpList_append_fits _ rfl (.tmp 69) (.tmp 71) 22 rfl w.heap.size 5 i0 1 Try.underlying22 hi hz1 w.heap.size X.length n (byteCells X) rfl (HO.out.alloc _) ⟨wr.heap.size, 0, none⟩ 1 1 [.int .u8 z] rfl rfl (cell_one_new _ _ _) ?c223 ?c323 ?_)
              case c223 => first | rfl | (intro u hu; simp at hu; subst hu; rfl)
              case c323 => omega
              intro w1 hown1 hgrow1
              obtain ⟨HR1, HR2⟩ := step_own HB.out (Nat.le_trans (by omega) HB.out.size) hown1 hgrow1
              have HR3 : Hid _ := HR1
              have HR4 : Hid _ := HR2
              clear hown1 hgrow1 HR1 HR2
              go_wp2
              go_roundw
              case rel => exact ⟨k + 1, _, _, _, X ++ [z], by omega, by simp, rfl, rfl, rfl, by go_num, HN.out.fit (by have := HZ.out; simp only [nl, isOpen, isShut, this]; simp; omega) (by simp [nq, HZ.out]) (by simp [ne]), HY.out (by rw [kp_flat (.inr (by omega))]; exact low_yes (by omega)), HR3.out, HR4.out⟩
              case measure => simp [intOf]; omega
            · go_wp2_with (at_builtin; refine wpList_append_fits _ rfl (.tmp 69) (.tmp 71) 22 rfl w.heap.size 5 i0 1 Try.underlying22 hi hz1 w.heap.size X.length n (byteCells X) rfl (HO.out.alloc _) ⟨wr.heap.size, 0, none⟩ 1 1 [.int .u8 z] rfl rfl (cell_one_new _ _ _) ?c224 ?c324 ?_)
              case c224 => first | rfl | (intro u hu; simp at hu; subst hu; rfl)
              case c324 => omega
              intro w1 hown1 hgrow1
              obtain ⟨HR1, HR2⟩ := step_own HB.out (Nat.le_trans (by omega) HB.out.size) hown1 hgrow1
              have HR3 : Hid _ := HR1
              have HR4 : Hid _ := HR2
              clear hown1 hgrow1 HR1 HR2
              go_wp2
              go_roundw
              case rel => exact ⟨k + 1, _, _, _, X ++ [z], by omega, by simp, rfl, rfl, rfl, by go_num, HN.out.fit (by have := HZ.out; simp only [nl, isOpen, isShut, this]; simp; omega) (by simp [nq, HZ.out]) (by simp [ne]), HY.out (by rw [kp_flat (.inr (by omega))]; exact low_yes (by omega)), HR3.out, HR4.out⟩
              case measure => simp [intOf]; omega
            · exfalso; omega
        · have b34 : (z == 34) = false := by simp [hz]
          have b123 : (z == 123) = false := by simp [hz]
          have b91 : (z == 91) = false := by simp [hz]
          have b125 : (z == 125) = false := by simp [hz]
          have b93 : (z == 93) = false := by simp [hz]
          have HZ : Hid (¬ z = 34 ∧ ¬ z = 123 ∧ ¬ z = 91 ∧ ¬ z = 125 ∧ ¬ z = 93) := hz
          clear hz
          rcases levels3 d l with hh | hh | hh
          · go_wp2_with (at_builtin; refine wpList_append_fits _ rfl (.tmp 69) (.tmp 71) 22 rfl w.heap.size 5 i0 1 Try.underlying22 hi hz1 w.heap.size X.length n (byteCells X) rfl (HO.out.alloc _) ⟨wr.heap.size, 0, none⟩ 1 1 [.int .u8 z] rfl rfl (cell_one_new _ _ _) ?c225 ?c325 ?_)
            case c225 => first | rfl | (intro u hu; simp at hu; subst hu; rfl)
            case c325 => omega
            intro w1 hown1 hgrow1
            obtain ⟨HR1, HR2⟩ := step_own HB.out (Nat.le_trans (by omega) HB.out.size) hown1 hgrow1
            have HR3 : Hid _ := HR1
            have HR4 : Hid _ := HR2
            clear hown1 hgrow1 HR1 HR2
            go_wp2
            go_roundw
            case rel => exact ⟨k + 1, _, _, _, X ++ [z], by omega, by simp, rfl, rfl, rfl, by go_num, HN.out.fit (by obtain ⟨y1, y2, y3, y4, y5⟩ := HZ.out; simp [nl, isOpen, isShut, y1, y2, y3, y4, y5]) (by simp [nq, HZ.out.1]) (by simp [ne]), HY.out (by rw [kp_flat (.inl ⟨b125, b93⟩)]; exact low_yes (by omega)), HR3.out, HR4.out⟩
            case measure => simp [intOf]; omega
          · go_wp2_with (at_builtin; refine wpList_append_fits _ rfl (.tmp 69) (.tmp 71) 22 rfl w.heap.size 5 i0 1 Try.underlying22 hi hz1 w.heap.size X.length n (byteCells X) rfl (HO.out.alloc _) ⟨wr.heap.size, 0, none⟩ 1 1 [.int .u8 z] rfl rfl (cell_one_new _ _ _) ?c226 ?c326 ?_)
            case c226 => first | rfl | (intro u hu; simp at hu; subst hu; rfl)
            case c326 => omega
            intro w1 hown1 hgrow1
            obtain ⟨HR1, HR2⟩ := step_own HB.out (Nat.le_trans (by omega) HB.out.size) hown1 hgrow1
            have HR3 : Hid _ := HR1
            have HR4 : Hid _ := HR2
            clear hown1 hgrow1 HR1 HR2
            go_wp2
            go_roundw
            case rel => exact ⟨k + 1, _, _, _, X ++ [z], by omega, by simp, rfl, rfl, rfl, by go_num, HN.out.fit (by obtain ⟨y1, y2, y3, y4, y5⟩ := HZ.out; simp [nl, isOpen, isShut, y1, y2, y3, y4, y5]) (by simp [nq, HZ.out.1]) (by simp [ne]), HY.out (by rw [kp_flat (.inl ⟨b125, b93⟩)]; exact low_yes (by omega)), HR3.out, HR4.out⟩
            case measure => simp [intOf]; omega
          · go_wp2
            go_roundw
            case rel => exact ⟨k + 1, _, _, _, X, by omega, rfl, rfl, rfl, rfl, by go_num, HN.out.fit (by obtain ⟨y1, y2, y3, y4, y5⟩ := HZ.out; simp [nl, isOpen, isShut, y1, y2, y3, y4, y5]) (by simp [nq, HZ.out.1]) (by simp [ne]), HX.out (by rw [kp_flat (.inl ⟨b125, b93⟩)]; exact low_no (by omega)), HO.out, HB.out⟩
            case measure => simp [intOf]; omega
    · go_wp2
      go_ret
      have hkn : k = n := by omega
      have hM : M d zs n = X := by rw [← hkn]; exact HM.out
      rw [hM]
      exact ⟨⟨_, _, rfl, HO.out⟩, HB.out⟩

end Go.Proofs.Qxb6627783a
