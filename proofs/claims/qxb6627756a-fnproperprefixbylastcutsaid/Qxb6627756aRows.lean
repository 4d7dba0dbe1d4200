/-
  No cell of these rows narrows 'for every input' (looked for: loops, veiled, ifaces, maps, wideKeys, modest, calm, conditions, laid).
  DERIVED. THE GIVEN ROWS OF THIS SEAT. 2 by the template 'for every input the law returns true; each argument reads behind the call as it read before'; 0 by the template 'total and deterministic' (their statements: Qxb6627756aTotals.lean).
  GIVEN WITH THE SEED: the statements are not yours to turn. If you find one false, say at which input.
  Laid BY PROGRAM, IN A SANDBOX (cutbox-rows.mjs): the forced cells as the released guide's own fill.sh prints them over the translation 6d739b924aba798c… (all of the seat's roots in one cut). By AI agents, Wed Nov 11 2026. No macro, syntax, notation, axiom, sorry.
-/
import Derived.Test.Qxb6627756aChecked
import GoSem.Claim
import GoSem.ClaimJoined
import GoSem.ClaimMapViews
import Derived.JoinedTies
import Derived.KernelRfl
namespace Go.Proofs.Qxb6627756a
/- THE CELL 'sum', in the pinned program and in every row, IS THE sha256 OF THE DUMP (.gsa) THAT Qxb6627756aProg.lean LOADS. Nothing in Lean hashes anything: it is a label: what it is worth is what the hold of that sum in a sandbox is worth. -/
noncomputable def Try.pinned : Pinned := { name := "qxb6627756a", sum := "6d739b924aba798c3a961340fbc85defd07171f2133143e557d7278a76e4447a", checked := Try.checked }
namespace Rows
def none {H : Type} : Left H := { results := [], args := [] }

/-- 'zzlaws_internal_jsonpatch_b1.FnProperPrefixOfConcatenation': WHATEVER THE INPUT: true; the input reads as it did. -/
def fnProperPrefixOfConcatenationSpec : ChangeSpec := { name := "fnProperPrefixOfConcatenation", fn := fun _ => fun
  | [d1, d2] => { results := [.lit (.bool true)], args := [d1, d2] }
  | _ => none }
def fnProperPrefixOfConcatenationRow : OpenClaim := { program := "qxb6627756a", sum := "6d739b924aba798c3a961340fbc85defd07171f2133143e557d7278a76e4447a", func := "example.com/stampwright/stampwright/zzlaws_internal_jsonpatch_b1.FnProperPrefixOfConcatenation", spec := "fnProperPrefixOfConcatenation", apart := false }
def FnProperPrefixOfConcatenationSaid : Prop := fnProperPrefixOfConcatenationRow.holds Try.pinned (OpenSpec.ofChange fnProperPrefixOfConcatenationSpec)

/-- ITS FALSE NEIGHBOUR: 'it returns false'. Refute it at one input. -/
def fnProperPrefixOfConcatenationWrong : ChangeSpec := { name := "fnProperPrefixOfConcatenation", fn := fun _ => fun
  | [d1, d2] => { results := [.lit (.bool false)], args := [d1, d2] }
  | _ => none }
def FnProperPrefixOfConcatenationWrongFalsely : Prop := fnProperPrefixOfConcatenationRow.holds Try.pinned (OpenSpec.ofChange fnProperPrefixOfConcatenationWrong)

/-- 'zzlaws_internal_jsonpatch_b1.FnProperPrefixByLastCut': WHATEVER THE INPUT: true; the input reads as it did. -/
def fnProperPrefixByLastCutSpec : ChangeSpec := { name := "fnProperPrefixByLastCut", fn := fun _ => fun
  | [d1, d2] => { results := [.lit (.bool true)], args := [d1, d2] }
  | _ => none }
def fnProperPrefixByLastCutRow : OpenClaim := { program := "qxb6627756a", sum := "6d739b924aba798c3a961340fbc85defd07171f2133143e557d7278a76e4447a", func := "example.com/stampwright/stampwright/zzlaws_internal_jsonpatch_b1.FnProperPrefixByLastCut", spec := "fnProperPrefixByLastCut", apart := false }
def FnProperPrefixByLastCutSaid : Prop := fnProperPrefixByLastCutRow.holds Try.pinned (OpenSpec.ofChange fnProperPrefixByLastCutSpec)

/-- ITS FALSE NEIGHBOUR: 'it returns false'. Refute it at one input. -/
def fnProperPrefixByLastCutWrong : ChangeSpec := { name := "fnProperPrefixByLastCut", fn := fun _ => fun
  | [d1, d2] => { results := [.lit (.bool false)], args := [d1, d2] }
  | _ => none }
def FnProperPrefixByLastCutWrongFalsely : Prop := fnProperPrefixByLastCutRow.holds Try.pinned (OpenSpec.ofChange fnProperPrefixByLastCutWrong)

end Rows
end Go.Proofs.Qxb6627756a
