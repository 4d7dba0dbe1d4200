/-
  The walk of maxLevel: it computes the deepest level.
-/
import Derived.Test.Qxb6627783aBase
namespace Go.Proofs.Qxb6627783a
open Go.RowKit

/-! ### the automaton over Int, as the walk carries it -/
def nl (z l : Int) (q : Bool) : Int := if q = true ∨ z = 34 then l else if isOpen z = true then l + 1 else if isShut z = true ∧ 0 < l then l - 1 else l
def nq (z : Int) (q e : Bool) : Bool := if q = true then (if e = true then true else decide (¬ z = 34)) else decide (z = 34)
def ne (z : Int) (q e : Bool) : Bool := if q = true then (if e = true then false else decide (z = 92)) else e

def StIs (zs : List Int) (k : Nat) (l : Int) (q e : Bool) : Prop := ((S zs k).lv : Int) = l ∧ (S zs k).ins = q ∧ (S zs k).esc = e
theorem StIs.fit {zs : List Int} {k : Nat} {l l' : Int} {q q' e e' : Bool} (h : StIs zs k l q e) (h1 : l = l') (h2 : q = q') (h3 : e = e') : StIs zs k l' q' e' := by subst h1 h2 h3; exact h
theorem StIs.step {zs : List Int} {k : Nat} {l : Int} {q e : Bool} (h : StIs zs k l q e) (hk : k < zs.length) (z : Int) (hz : z = zs.getD k 0) : StIs zs (k + 1) (nl z l q) (nq z q e) (ne z q e) := by
  obtain ⟨h1, h2, h3⟩ := h
  unfold StIs
  rw [S_succ zs k hk, ← hz]
  subst h1 h2 h3
  generalize S zs k = s
  obtain ⟨l, q, e⟩ := s
  cases q <;> cases e <;> simp only [nx, nl, nq, ne] <;> (repeat' split) <;> simp_all
  all_goals omega
theorem StIs.le {zs : List Int} {k : Nat} {l : Int} {q e : Bool} (h : StIs zs k l q e) (hk : k ≤ zs.length) : 0 ≤ l ∧ l ≤ k := by
  have := S_lv zs k hk
  have := h.1
  omega
theorem StIs.start (zs : List Int) : StIs zs 0 0 false false := ⟨rfl, rfl, rfl⟩
def LvIs (zs : List Int) (k : Nat) (m : Int) : Prop := (L zs k : Int) = m
theorem LvIs.step {zs : List Int} {k : Nat} {l m l' : Int} {q e : Bool} (h : LvIs zs k m) (hk : k < zs.length) (hs : StIs zs (k + 1) l q e) (h1 : l' = max m l) : LvIs zs (k + 1) l' := by
  unfold LvIs at *
  rw [L_succ zs k hk, h1, ← h, ← hs.1]
  omega
theorem LvIs.le {zs : List Int} {k : Nat} {m : Int} (h : LvIs zs k m) (hk : k ≤ zs.length) : 0 ≤ m ∧ m ≤ k := by
  have := L_le zs k hk
  have : (L zs k : Int) = m := h
  omega

theorem S_le_L (zs : List Int) (k : Nat) (h : k ≤ zs.length) : (S zs k).lv ≤ L zs k := by
  cases k with
  | zero => exact Nat.le_refl _
  | succ k => rw [L_succ zs k h]; exact Nat.le_max_right _ _
theorem LvIs.ge {zs : List Int} {k : Nat} {l m : Int} {q e : Bool} (h : LvIs zs k m) (hs : StIs zs k l q e) (hk : k ≤ zs.length) : l ≤ m := by
  have := S_le_L zs k hk
  have h1 : (L zs k : Int) = m := h
  have := hs.1
  omega

theorem kinds (z : Int) : z = 34 ∨ z = 92 ∨ z = 123 ∨ z = 91 ∨ z = 125 ∨ z = 93 ∨ (¬ z = 34 ∧ ¬ z = 92 ∧ ¬ z = 123 ∧ ¬ z = 91 ∧ ¬ z = 125 ∧ ¬ z = 93) := by omega

theorem ret_int {k : IntKind} {a b : Int} (h : a = b) : Ending.returned (.int k a) = .returned (.int k b) := by rw [h]

set_option maxHeartbeats 3200000 in
theorem maxLevel_any {B : Nat} (a : Option Addr) (n c : Nat) (zs : List Int) (w : World) (hn : n ≤ 1048576) (hv : ViewB B w a n zs) :
    Calls Try.prog 10 #[.slice a n c] w fun e w' => e = .returned (.int .i64 (L zs n)) ∧ w' = w := by
  have HV : Hid (ViewB B w a n zs) := hv
  clear hv
  go_enter Try.func10, Try.ntmps10
  go_wp2
  go_loop [3, 4, 5, 6, 7] (fun v3 v4 v5 v6 v7 => ∃ (k : Nat) (l m : Int) (q e : Bool), (k : Int) ≤ n ∧ v3 = .int .i64 l ∧ v4 = .int .i64 m ∧ v5 = .bool q ∧ v6 = .bool e ∧ v7 = .int .i64 k ∧ Hid (StIs zs k l q e) ∧ Hid (LvIs zs k m)) (fun _ _ _ _ v7 => n - (intOf v7).toNat)
  case atStart => exact ⟨0, 0, 0, false, false, by omega, rfl, rfl, rfl, rfl, rfl, StIs.start zs, rfl⟩
  case round =>
    obtain ⟨k, l, m, q, e, hk, rfl, rfl, rfl, rfl, rfl, HS, HL⟩ := hrel
    have hl := HS.out.le (by rw [HV.out.1]; omega)
    have hm := HL.out.le (by rw [HV.out.1]; omega)
    have hlm := HL.out.ge HS.out (by rw [HV.out.1]; omega)
    obtain ⟨hl0, hl1⟩ := hl
    obtain ⟨hm0, hm1⟩ := hm
    by_cases hlt : k < n
    · obtain ⟨b, off, rfl, hc⟩ : ∃ b off, a = some ⟨b, off, none⟩ ∧ w.cell? ⟨b, off + k, none⟩ = some (.int .u8 (zs.getD k 0)) := by
        rcases HV.out.2.2 with h | ⟨b, off, h, _, h2⟩
        · omega
        · exact ⟨b, off, h, h2 k hlt⟩
      have g2 := HV.out.2.1 k
      obtain ⟨z, ez⟩ : ∃ z, z = zs.getD k 0 := ⟨_, rfl⟩
      rw [← ez] at hc g2
      obtain ⟨z0, z1⟩ := g2
      have HN : Hid (StIs zs (k + 1) (nl z l q) (nq z q e) (ne z q e)) := HS.out.step (by rw [HV.out.1]; exact hlt) z ez
      have HK : Hid (k < zs.length) := by unfold Hid; rw [HV.out.1]; exact hlt
      clear ez
      rcases kinds z with rfl | rfl | rfl | rfl | rfl | rfl | hz
      rotate_right
      · obtain ⟨n1, n2, n3, n4, n5, n6⟩ := hz
        have b1 : (z == 34) = false := by simp [n1]
        have b2 : (z == 92) = false := by simp [n2]
        have b3 : (z == 123) = false := by simp [n3]
        have b4 : (z == 91) = false := by simp [n4]
        have b5 : (z == 125) = false := by simp [n5]
        have b6 : (z == 93) = false := by simp [n6]
        have HZ : Hid (¬ z = 34 ∧ ¬ z = 92 ∧ ¬ z = 123 ∧ ¬ z = 91 ∧ ¬ z = 125 ∧ ¬ z = 93) := ⟨n1, n2, n3, n4, n5, n6⟩
        clear n1 n2 n3 n4 n5 n6
        cases q <;> cases e <;> go_wp2
        all_goals
          obtain ⟨n1, n2, n3, n4, n5, n6⟩ := HZ.out
          go_round
          case rel => exact ⟨k + 1, _, _, _, _, by omega, rfl, rfl, rfl, rfl, by go_num, HN.out.fit (by simp [nl, isOpen, isShut, *]) (by simp [nq, *]) (by simp [ne, *]), HL.out.step HK.out HN.out (by simp [nl, isOpen, isShut, *]; try omega)⟩
          case measure => simp [intOf]; omega
      all_goals
        cases q <;> cases e <;> go_wp2
        all_goals
          go_round
          case rel =>
            refine ⟨k + 1, _, _, _, _, by omega, rfl, rfl, rfl, rfl, by go_num, HN.out.fit ?_ (by simp [nq]) (by simp [ne]), HL.out.step HK.out HN.out ?_⟩
            · simp [nl, isOpen, isShut] <;> omega
            · simp [nl, isOpen, isShut] <;> omega
          case measure => simp [intOf]; omega
    · go_wp2
      go_ret
      have hkn : k = n := by omega
      refine ⟨ret_int ?_, rfl⟩
      rw [← hkn]; exact HL.out.symm

end Go.Proofs.Qxb6627783a
