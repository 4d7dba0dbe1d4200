/-
  No cell of these rows narrows 'for every input' (looked for: loops, veiled, ifaces, maps, wideKeys, modest, calm, conditions, laid).
  DERIVED. THE GIVEN ROWS OF THIS SEAT. 2 by the template 'for every input the law returns true; each argument reads behind the call as it read before'; 0 by the template 'total and deterministic' (their statements: Qxb6627829aTotals.lean).
  GIVEN WITH THE SEED: the statements are not yours to turn. If you find one false, say at which input.
  Laid BY PROGRAM, IN A SANDBOX (cutbox-rows.mjs): the forced cells as the released guide's own fill.sh prints them over the translation ef30d0cc182d5999… (all of the seat's roots in one cut). By AI agents, Wed Nov 11 2026. No macro, syntax, notation, axiom, sorry.
-/
import Derived.Test.Qxb6627829aChecked
import GoSem.Claim
import GoSem.ClaimJoined
import GoSem.ClaimMapViews
import Derived.JoinedTies
import Derived.KernelRfl
namespace Go.Proofs.Qxb6627829a
/- THE CELL 'sum', in the pinned program and in every row, IS THE sha256 OF THE DUMP (.gsa) THAT Qxb6627829aProg.lean LOADS. Nothing in Lean hashes anything: it is a label: what it is worth is what the hold of that sum in a sandbox is worth. -/
noncomputable def Try.pinned : Pinned := { name := "qxb6627829a", sum := "ef30d0cc182d59992758473ecb0c9534d377033ec99a4528ab1ad91016eabc02", checked := Try.checked }
namespace Rows
def none {H : Type} : Left H := { results := [], args := [] }

/-- 'zzlaws_root_b1.FnSharesGrantedIsTheExactSumOfEveryEntry': WHATEVER THE INPUT: true; the input reads as it did. -/
def fnSharesGrantedIsTheExactSumOfEveryEntrySpec : ChangeSpec := { name := "fnSharesGrantedIsTheExactSumOfEveryEntry", fn := fun _ => fun
  | [d] => { results := [.lit (.bool true)], args := [d] }
  | _ => none }
def fnSharesGrantedIsTheExactSumOfEveryEntryRow : OpenClaim := { program := "qxb6627829a", sum := "ef30d0cc182d59992758473ecb0c9534d377033ec99a4528ab1ad91016eabc02", func := "example.com/vestline/vestline/zzlaws_root_b1.FnSharesGrantedIsTheExactSumOfEveryEntry", spec := "fnSharesGrantedIsTheExactSumOfEveryEntry", inPlace := ["math/big.addVV", "math/bits.Add64", "math/big.subVV", "math/bits.Sub64"], recurses := true, apart := false }
def FnSharesGrantedIsTheExactSumOfEveryEntrySaid : Prop := fnSharesGrantedIsTheExactSumOfEveryEntryRow.holds Try.pinned (OpenSpec.ofChange fnSharesGrantedIsTheExactSumOfEveryEntrySpec)

/-- ITS FALSE NEIGHBOUR: 'it returns false'. Refute it at one input. -/
def fnSharesGrantedIsTheExactSumOfEveryEntryWrong : ChangeSpec := { name := "fnSharesGrantedIsTheExactSumOfEveryEntry", fn := fun _ => fun
  | [d] => { results := [.lit (.bool false)], args := [d] }
  | _ => none }
def FnSharesGrantedIsTheExactSumOfEveryEntryWrongFalsely : Prop := fnSharesGrantedIsTheExactSumOfEveryEntryRow.holds Try.pinned (OpenSpec.ofChange fnSharesGrantedIsTheExactSumOfEveryEntryWrong)

/-- 'zzlaws_root_b1.FnSharesGrantedAddsUpOverAnyCutOfTheGrants': WHATEVER THE INPUT: true; the input reads as it did. -/
def fnSharesGrantedAddsUpOverAnyCutOfTheGrantsSpec : ChangeSpec := { name := "fnSharesGrantedAddsUpOverAnyCutOfTheGrants", fn := fun _ => fun
  | [d1, d2] => { results := [.lit (.bool true)], args := [d1, d2] }
  | _ => none }
def fnSharesGrantedAddsUpOverAnyCutOfTheGrantsRow : OpenClaim := { program := "qxb6627829a", sum := "ef30d0cc182d59992758473ecb0c9534d377033ec99a4528ab1ad91016eabc02", func := "example.com/vestline/vestline/zzlaws_root_b1.FnSharesGrantedAddsUpOverAnyCutOfTheGrants", spec := "fnSharesGrantedAddsUpOverAnyCutOfTheGrants", inPlace := ["math/big.addVV", "math/bits.Add64", "math/big.subVV", "math/bits.Sub64"], recurses := true, apart := false }
def FnSharesGrantedAddsUpOverAnyCutOfTheGrantsSaid : Prop := fnSharesGrantedAddsUpOverAnyCutOfTheGrantsRow.holds Try.pinned (OpenSpec.ofChange fnSharesGrantedAddsUpOverAnyCutOfTheGrantsSpec)

/-- ITS FALSE NEIGHBOUR: 'it returns false'. Refute it at one input. -/
def fnSharesGrantedAddsUpOverAnyCutOfTheGrantsWrong : ChangeSpec := { name := "fnSharesGrantedAddsUpOverAnyCutOfTheGrants", fn := fun _ => fun
  | [d1, d2] => { results := [.lit (.bool false)], args := [d1, d2] }
  | _ => none }
def FnSharesGrantedAddsUpOverAnyCutOfTheGrantsWrongFalsely : Prop := fnSharesGrantedAddsUpOverAnyCutOfTheGrantsRow.holds Try.pinned (OpenSpec.ofChange fnSharesGrantedAddsUpOverAnyCutOfTheGrantsWrong)

end Rows
end Go.Proofs.Qxb6627829a
