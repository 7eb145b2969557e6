/-
  No cell of these rows narrows 'for every input' (looked for: loops, veiled, ifaces, maps, wideKeys, modest, calm, conditions, laid).
  DERIVED. THE GIVEN ROWS OF THIS SEAT. 2 by the template 'for every input the law returns true; each argument reads behind the call as it read before'; 0 by the template 'total and deterministic' (their statements: Qxb6618271aTotals.lean).
  GIVEN WITH THE SEED: the statements are not yours to turn. If you find one false, say at which input.
  Laid BY PROGRAM, IN A SANDBOX (cutbox-rows.mjs): the forced cells as the released guide's own fill.sh prints them over the translation 17d495bb3494cb54… (all of the seat's roots in one cut). By AI agents, Wed Nov 11 2026. No macro, syntax, notation, axiom, sorry.
-/
import Derived.Test.Qxb6618271aChecked
import GoSem.Claim
import GoSem.ClaimJoined
import GoSem.ClaimMapViews
import Derived.JoinedTies
import Derived.KernelRfl
namespace Go.Proofs.Qxb6618271a
/- THE CELL 'sum', in the pinned program and in every row, IS THE sha256 OF THE DUMP (.gsa) THAT Qxb6618271aProg.lean LOADS. Nothing in Lean hashes anything: it is a label: what it is worth is what the hold of that sum in a sandbox is worth. -/
noncomputable def Try.pinned : Pinned := { name := "qxb6618271a", sum := "17d495bb3494cb544598acd21b12d3651f25209877c5ff4afd16332ffbb14d33", checked := Try.checked }
namespace Rows
def none {H : Type} : Left H := { results := [], args := [] }

/-- 'zzlaws_root_b1.FnWithinMatchesMergeModel': WHATEVER THE INPUT: true; the input reads as it did. -/
def fnWithinMatchesMergeModelSpec : ChangeSpec := { name := "fnWithinMatchesMergeModel", fn := fun _ => fun
  | [d1, d2, d3, d4] => { results := [.lit (.bool true)], args := [d1, d2, d3, d4] }
  | _ => none }
def fnWithinMatchesMergeModelRow : OpenClaim := { program := "qxb6618271a", sum := "17d495bb3494cb544598acd21b12d3651f25209877c5ff4afd16332ffbb14d33", func := "example.com/corelattice/corelattice/zzlaws_root_b1.FnWithinMatchesMergeModel", spec := "fnWithinMatchesMergeModel", apart := false }
def FnWithinMatchesMergeModelSaid : Prop := fnWithinMatchesMergeModelRow.holds Try.pinned (OpenSpec.ofChange fnWithinMatchesMergeModelSpec)

/-- ITS FALSE NEIGHBOUR: 'it returns false'. Refute it at one input. -/
def fnWithinMatchesMergeModelWrong : ChangeSpec := { name := "fnWithinMatchesMergeModel", fn := fun _ => fun
  | [d1, d2, d3, d4] => { results := [.lit (.bool false)], args := [d1, d2, d3, d4] }
  | _ => none }
def FnWithinMatchesMergeModelWrongFalsely : Prop := fnWithinMatchesMergeModelRow.holds Try.pinned (OpenSpec.ofChange fnWithinMatchesMergeModelWrong)

/-- 'zzlaws_root_b1.FnWithinBothWaysIsEquality': WHATEVER THE INPUT: true; the input reads as it did. -/
def fnWithinBothWaysIsEqualitySpec : ChangeSpec := { name := "fnWithinBothWaysIsEquality", fn := fun _ => fun
  | [d1, d2, d3, d4] => { results := [.lit (.bool true)], args := [d1, d2, d3, d4] }
  | _ => none }
def fnWithinBothWaysIsEqualityRow : OpenClaim := { program := "qxb6618271a", sum := "17d495bb3494cb544598acd21b12d3651f25209877c5ff4afd16332ffbb14d33", func := "example.com/corelattice/corelattice/zzlaws_root_b1.FnWithinBothWaysIsEquality", spec := "fnWithinBothWaysIsEquality", apart := false }
def FnWithinBothWaysIsEqualitySaid : Prop := fnWithinBothWaysIsEqualityRow.holds Try.pinned (OpenSpec.ofChange fnWithinBothWaysIsEqualitySpec)

/-- ITS FALSE NEIGHBOUR: 'it returns false'. Refute it at one input. -/
def fnWithinBothWaysIsEqualityWrong : ChangeSpec := { name := "fnWithinBothWaysIsEquality", fn := fun _ => fun
  | [d1, d2, d3, d4] => { results := [.lit (.bool false)], args := [d1, d2, d3, d4] }
  | _ => none }
def FnWithinBothWaysIsEqualityWrongFalsely : Prop := fnWithinBothWaysIsEqualityRow.holds Try.pinned (OpenSpec.ofChange fnWithinBothWaysIsEqualityWrong)

end Rows
end Go.Proofs.Qxb6618271a
