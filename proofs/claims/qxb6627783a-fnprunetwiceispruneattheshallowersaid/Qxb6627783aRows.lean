/-
  No cell of these rows narrows 'for every input' (looked for: loops, veiled, ifaces, maps, wideKeys, modest, calm, conditions, laid).
  DERIVED. THE GIVEN ROWS OF THIS SEAT. 2 by the template 'for every input the law returns true; each argument reads behind the call as it read before'; 0 by the template 'total and deterministic' (their statements: Qxb6627783aTotals.lean).
  GIVEN WITH THE SEED: the statements are not yours to turn. If you find one false, say at which input.
  Laid BY PROGRAM, IN A SANDBOX (cutbox-rows.mjs): the forced cells as the released guide's own fill.sh prints them over the translation f753c58fbb45098b… (all of the seat's roots in one cut). By AI agents, Wed Nov 11 2026. No macro, syntax, notation, axiom, sorry.
-/
import Derived.Test.Qxb6627783aChecked
import GoSem.Claim
import GoSem.ClaimJoined
import GoSem.ClaimMapViews
import Derived.JoinedTies
import Derived.KernelRfl
namespace Go.Proofs.Qxb6627783a
/- THE CELL 'sum', in the pinned program and in every row, IS THE sha256 OF THE DUMP (.gsa) THAT Qxb6627783aProg.lean LOADS. Nothing in Lean hashes anything: it is a label: what it is worth is what the hold of that sum in a sandbox is worth. -/
noncomputable def Try.pinned : Pinned := { name := "qxb6627783a", sum := "f753c58fbb45098b9b630c191d12e60358a1cd369801f864417e38217271e344", checked := Try.checked }
namespace Rows
def none {H : Type} : Left H := { results := [], args := [] }

/-- 'zzlaws_internal_jsonobj_b1.FnPruneKeepsExactlyTheBytesNotDeeperThanDepth': WHATEVER THE INPUT: true; the input reads as it did. -/
def fnPruneKeepsExactlyTheBytesNotDeeperThanDepthSpec : ChangeSpec := { name := "fnPruneKeepsExactlyTheBytesNotDeeperThanDepth", fn := fun _ => fun
  | [d1, d2] => { results := [.lit (.bool true)], args := [d1, d2] }
  | _ => none }
def fnPruneKeepsExactlyTheBytesNotDeeperThanDepthRow : OpenClaim := { program := "qxb6627783a", sum := "f753c58fbb45098b9b630c191d12e60358a1cd369801f864417e38217271e344", func := "example.com/episodary/episodary/zzlaws_internal_jsonobj_b1.FnPruneKeepsExactlyTheBytesNotDeeperThanDepth", spec := "fnPruneKeepsExactlyTheBytesNotDeeperThanDepth", unfollowed := true, recurses := true, apart := false }
def FnPruneKeepsExactlyTheBytesNotDeeperThanDepthSaid : Prop := fnPruneKeepsExactlyTheBytesNotDeeperThanDepthRow.holds Try.pinned (OpenSpec.ofChange fnPruneKeepsExactlyTheBytesNotDeeperThanDepthSpec)

/-- ITS FALSE NEIGHBOUR: 'it returns false'. Refute it at one input. -/
def fnPruneKeepsExactlyTheBytesNotDeeperThanDepthWrong : ChangeSpec := { name := "fnPruneKeepsExactlyTheBytesNotDeeperThanDepth", fn := fun _ => fun
  | [d1, d2] => { results := [.lit (.bool false)], args := [d1, d2] }
  | _ => none }
def FnPruneKeepsExactlyTheBytesNotDeeperThanDepthWrongFalsely : Prop := fnPruneKeepsExactlyTheBytesNotDeeperThanDepthRow.holds Try.pinned (OpenSpec.ofChange fnPruneKeepsExactlyTheBytesNotDeeperThanDepthWrong)

/-- 'zzlaws_internal_jsonobj_b1.FnPruneTwiceIsPruneAtTheShallower': WHATEVER THE INPUT: true; the input reads as it did. -/
def fnPruneTwiceIsPruneAtTheShallowerSpec : ChangeSpec := { name := "fnPruneTwiceIsPruneAtTheShallower", fn := fun _ => fun
  | [d1, d2, d3] => { results := [.lit (.bool true)], args := [d1, d2, d3] }
  | _ => none }
def fnPruneTwiceIsPruneAtTheShallowerRow : OpenClaim := { program := "qxb6627783a", sum := "f753c58fbb45098b9b630c191d12e60358a1cd369801f864417e38217271e344", func := "example.com/episodary/episodary/zzlaws_internal_jsonobj_b1.FnPruneTwiceIsPruneAtTheShallower", spec := "fnPruneTwiceIsPruneAtTheShallower", unfollowed := true, recurses := true, apart := false }
def FnPruneTwiceIsPruneAtTheShallowerSaid : Prop := fnPruneTwiceIsPruneAtTheShallowerRow.holds Try.pinned (OpenSpec.ofChange fnPruneTwiceIsPruneAtTheShallowerSpec)

/-- ITS FALSE NEIGHBOUR: 'it returns false'. Refute it at one input. -/
def fnPruneTwiceIsPruneAtTheShallowerWrong : ChangeSpec := { name := "fnPruneTwiceIsPruneAtTheShallower", fn := fun _ => fun
  | [d1, d2, d3] => { results := [.lit (.bool false)], args := [d1, d2, d3] }
  | _ => none }
def FnPruneTwiceIsPruneAtTheShallowerWrongFalsely : Prop := fnPruneTwiceIsPruneAtTheShallowerRow.holds Try.pinned (OpenSpec.ofChange fnPruneTwiceIsPruneAtTheShallowerWrong)

end Rows
end Go.Proofs.Qxb6627783a
