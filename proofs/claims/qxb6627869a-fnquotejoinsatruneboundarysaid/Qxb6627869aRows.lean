/-
  No cell of these rows narrows 'for every input' (looked for: loops, veiled, ifaces, maps, wideKeys, modest, calm, conditions, laid).
  DERIVED. THE GIVEN ROWS OF THIS SEAT. 2 by the template 'for every input the law returns true; each argument reads behind the call as it read before'; 0 by the template 'total and deterministic' (their statements: Qxb6627869aTotals.lean).
  GIVEN WITH THE SEED: the statements are not yours to turn. If you find one false, say at which input.
  Laid BY PROGRAM, IN A SANDBOX (cutbox-rows.mjs): the forced cells as the released guide's own fill.sh prints them over the translation d3f3ae10dcbec29a… (all of the seat's roots in one cut). By AI agents, Wed Nov 11 2026. No macro, syntax, notation, axiom, sorry.
-/
import Derived.Test.Qxb6627869aChecked
import GoSem.Claim
import GoSem.ClaimJoined
import GoSem.ClaimMapViews
import Derived.JoinedTies
import Derived.KernelRfl
namespace Go.Proofs.Qxb6627869a
/- THE CELL 'sum', in the pinned program and in every row, IS THE sha256 OF THE DUMP (.gsa) THAT Qxb6627869aProg.lean LOADS. Nothing in Lean hashes anything: it is a label: what it is worth is what the hold of that sum in a sandbox is worth. -/
noncomputable def Try.pinned : Pinned := { name := "qxb6627869a", sum := "d3f3ae10dcbec29a60cdfaf8e5f5ab514a7c23737b2ba9913ed51de970db3753", checked := Try.checked }
namespace Rows
def none {H : Type} : Left H := { results := [], args := [] }

/-- 'zzlaws_internal_sip_b1.FnQuoteMatchesByteModel': WHATEVER THE INPUT: true; the input reads as it did. -/
def fnQuoteMatchesByteModelSpec : ChangeSpec := { name := "fnQuoteMatchesByteModel", fn := fun _ => fun
  | [d] => { results := [.lit (.bool true)], args := [d] }
  | _ => none }
def fnQuoteMatchesByteModelRow : OpenClaim := { program := "qxb6627869a", sum := "d3f3ae10dcbec29a60cdfaf8e5f5ab514a7c23737b2ba9913ed51de970db3753", func := "example.com/sipveil/sipveil/zzlaws_internal_sip_b1.FnQuoteMatchesByteModel", spec := "fnQuoteMatchesByteModel", inPlace := ["internal/abi.NoEscape", "internal/bytealg.MakeNoZero"], apart := false }
def FnQuoteMatchesByteModelSaid : Prop := fnQuoteMatchesByteModelRow.holds Try.pinned (OpenSpec.ofChange fnQuoteMatchesByteModelSpec)

/-- ITS FALSE NEIGHBOUR: 'it returns false'. Refute it at one input. -/
def fnQuoteMatchesByteModelWrong : ChangeSpec := { name := "fnQuoteMatchesByteModel", fn := fun _ => fun
  | [d] => { results := [.lit (.bool false)], args := [d] }
  | _ => none }
def FnQuoteMatchesByteModelWrongFalsely : Prop := fnQuoteMatchesByteModelRow.holds Try.pinned (OpenSpec.ofChange fnQuoteMatchesByteModelWrong)

/-- 'zzlaws_internal_sip_b1.FnQuoteJoinsAtRuneBoundary': WHATEVER THE INPUT: true; the input reads as it did. -/
def fnQuoteJoinsAtRuneBoundarySpec : ChangeSpec := { name := "fnQuoteJoinsAtRuneBoundary", fn := fun _ => fun
  | [d1, d2] => { results := [.lit (.bool true)], args := [d1, d2] }
  | _ => none }
def fnQuoteJoinsAtRuneBoundaryRow : OpenClaim := { program := "qxb6627869a", sum := "d3f3ae10dcbec29a60cdfaf8e5f5ab514a7c23737b2ba9913ed51de970db3753", func := "example.com/sipveil/sipveil/zzlaws_internal_sip_b1.FnQuoteJoinsAtRuneBoundary", spec := "fnQuoteJoinsAtRuneBoundary", inPlace := ["internal/abi.NoEscape", "internal/bytealg.MakeNoZero"], apart := false }
def FnQuoteJoinsAtRuneBoundarySaid : Prop := fnQuoteJoinsAtRuneBoundaryRow.holds Try.pinned (OpenSpec.ofChange fnQuoteJoinsAtRuneBoundarySpec)

/-- ITS FALSE NEIGHBOUR: 'it returns false'. Refute it at one input. -/
def fnQuoteJoinsAtRuneBoundaryWrong : ChangeSpec := { name := "fnQuoteJoinsAtRuneBoundary", fn := fun _ => fun
  | [d1, d2] => { results := [.lit (.bool false)], args := [d1, d2] }
  | _ => none }
def FnQuoteJoinsAtRuneBoundaryWrongFalsely : Prop := fnQuoteJoinsAtRuneBoundaryRow.holds Try.pinned (OpenSpec.ofChange fnQuoteJoinsAtRuneBoundaryWrong)

end Rows
end Go.Proofs.Qxb6627869a
