/-
  FnQuoteMatchesByteModel: the walk and the row.
-/
import Derived.Test.Qxb6627869aRows
import Derived.Test.Qxb6627869aModel
import Derived.WalkKit
import Derived.ProofKit
import Derived.OpenShut
import Derived.ShutString
set_option linter.unusedVariables false
namespace Go.Proofs.Qxb6627869a
open Go.ChangeShapes Go.WideShapes Go.ChangeAt Go.RowKit
open Go.ChangeMaps (open_string shut_string)
namespace fnQuoteMatchesByteModel

theorem own : ownKnob Try.prog.godebug = none := by kernel_rfl

theorem guard_big (s : ByteArray) (w : World) (hm : s.size ≤ maxLen) (hs : 1048576 < s.size) : Calls Try.prog 5 #[.string s] w fun e w' => e = .returned (.bool false) ∧ w' = w := by
  unfold maxLen at hm
  have hsi : (1048576 : Int) < (s.size : Int) := by omega
  go_enter Try.func5, Try.ntmps5
  go_wp2
  go_ret
  exact ⟨rfl, rfl⟩
theorem guard_small (s : ByteArray) (w : World) (hs : s.size ≤ 1048576) : Calls Try.prog 5 #[.string s] w fun e w' => e = .returned (.bool true) ∧ w' = w := by
  go_enter Try.func5, Try.ntmps5
  go_wp2
  go_ret
  exact ⟨rfl, rfl⟩

set_option maxHeartbeats 1600000 in
theorem walk (a0 : ByteArray) (w0 : a0.size ≤ maxLen) (w : World) :
    Calls Try.prog 3 #[.string a0] w fun e w' => e = .returned (.bool true) ∧ Below w.heap.size w w' := by
  by_cases hs : a0.size ≤ 1048576
  · go_enter Try.func3, Try.ntmps3
    go_wp2_with fail
    refine (guard_small a0 _ hs).mono ?_
    rintro e wx ⟨rfl, rfl⟩
    go_wp2_with fail
    refine (quote_walk a0 _ hs).mono ?_
    rintro e w1 ⟨rfl, b1⟩
    have HB1 : Hid (Below wx.heap.size wx w1) := b1
    clear b1
    obtain ⟨Q, eQ⟩ : ∃ Q : ByteArray, Q = ⟨(quote a0).toArray⟩ := ⟨_, rfl⟩
    rw [← eQ]
    have HQ : Hid (Q = ⟨(quote a0).toArray⟩) := eQ
    clear eQ
    go_wp2_with fail
    refine (model_walk a0 _ hs).mono ?_
    rintro e w2 ⟨rfl, b2⟩
    rw [← HQ.out]
    have HB2 : Hid (Below wx.heap.size wx w2) := HB1.out.trans (b2.mono HB1.out.size)
    clear b2
    have hq : (Q.toList == Q.toList) = true := by simp
    go_wp2
    go_ret
    exact ⟨rfl, HB2.out⟩
  · go_enter Try.func3, Try.ntmps3
    go_wp2_with fail
    refine (guard_big a0 _ w0 (by omega)).mono ?_
    rintro e wx ⟨rfl, rfl⟩
    go_wp2
    go_ret
    exact ⟨rfl, Below.refl _ _⟩

set_option maxRecDepth 100000 in
theorem lifted (os : Os) (started : os.Started) (H : Type) (enc : TypeId × Value → H) :
    ReturnsInHanded {} Try.checked os 3 .any (Rows.fnQuoteMatchesByteModelSpec.pre6 enc Try.prog Try.f3 Rows.fnQuoteMatchesByteModelRow.domain false) (Rows.fnQuoteMatchesByteModelSpec.post enc Try.prog Try.f3 false true false false) := by
  refine returnsInHanded_of_change (C := Try.checked) own started (by kernel_rfl) Try.func3
    (ChangeSpec.witness6 (enc := enc) (C := Try.checked) false ⟨#[], #[.string ByteArray.empty], []⟩ 8 (by kernel_rfl) (by kernel_rfl) (by kernel_rfl) (by kernel_rfl)) ?_
  intro W base args ds gs before hval0 hW hcnd _
  have hval : ∀ (j : Nat) t v, Try.f3.params[j]? = some t → args[j]? = some v → Value.okWide Try.prog W .any base t v := hval0
  have hW' := hW
  obtain ⟨p, q, hA0, hV, rfl, hfz, hnd⟩ := hW
  have hA : DataW.TrodAll enc Try.prog W 0 (fun _ => true) true Try.f3.params.toList args.toList ds p := hA0
  rw [Try.params3] at hA hval
  obtain ⟨v0, vs0, d0, ds0, p0, q0, hargs, rfl, rfl, h0, r0⟩ := trodAll_cons hA
  obtain ⟨rfl, rfl, rfl⟩ := trodAll_nil r0
  obtain rfl : args = #[v0] := by cases args; simp_all
  obtain ⟨rfl, rfl⟩ := trodVars_none hV
  obtain ⟨a0, rfl, rfl, rfl, w0⟩ := open_string Try.underlying9 (hval 0 9 v0 rfl rfl) h0
  clear hA0 hval0
  refine (walk a0 w0 W).mono fun e W' ⟨he, bel⟩ => ?_
  subst he
  exact ⟨_, rfl, _, _, _, [], _, [], hW', trodAll_mk1 (shut_bool Try.underlying4 _), (trodAll_cons_mk (shut_string Try.underlying9 w0) trodAll_mk0), rfl, bel.frame _, fun h => by cases h⟩

theorem over : Rows.fnQuoteMatchesByteModelRow.holds Try.pinned (OpenSpec.ofChange Rows.fnQuoteMatchesByteModelSpec) :=
  OpenClaim.holds_of_wide 3 Try.f3 rfl rfl rfl rfl rfl rfl rfl ⟨rfl, rfl, rfl, rfl, rfl⟩ rfl rfl rfl rfl rfl (by kernel_rfl) Try.func3 (by kernel_rfl)
    (of_decide_eq_true (by kernel_rfl)) (by unfold Func.isWrapper; first | (rw [if_pos (by decide +kernel)]; kernel_rfl) | (rw [if_neg (by decide +kernel)]; exact ⟨rfl, rfl⟩))
    (fun os started H enc _ => lifted os started H enc)
end fnQuoteMatchesByteModel

/-- The statement. -/
theorem matches_proved : Rows.FnQuoteMatchesByteModelSaid := fnQuoteMatchesByteModel.over
#print axioms matches_proved
end Go.Proofs.Qxb6627869a
