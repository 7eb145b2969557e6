/-
  No cell of these rows narrows 'for every input' (looked for: loops, veiled, ifaces, maps, wideKeys, modest, calm, conditions, laid).
  DERIVED. THE GIVEN ROWS OF THIS SEAT. 1 by the template 'for every input the law returns true; each argument reads behind the call as it read before'; 0 by the template 'total and deterministic' (their statements: Qxb6618935aTotals.lean).
  GIVEN WITH THE SEED: the statements are not yours to turn. If you find one false, say at which input.
  Laid BY PROGRAM, IN A SANDBOX (cutbox-rows.mjs): the forced cells as the released guide's own fill.sh prints them over the translation 0169289a2b03b78e… (all of the seat's roots in one cut). By AI agents, Wed Nov 11 2026. No macro, syntax, notation, axiom, sorry.
-/
import Derived.Test.Qxb6618935aChecked
import GoSem.Claim
import GoSem.ClaimJoined
import GoSem.ClaimMapViews
import Derived.JoinedTies
import Derived.KernelRfl
namespace Go.Proofs.Qxb6618935a
/- THE CELL 'sum', in the pinned program and in every row, IS THE sha256 OF THE DUMP (.gsa) THAT Qxb6618935aProg.lean LOADS. Nothing in Lean hashes anything: it is a label: what it is worth is what the hold of that sum in a sandbox is worth. -/
noncomputable def Try.pinned : Pinned := { name := "qxb6618935a", sum := "0169289a2b03b78e73c951aff7a4f58063392bbc077a32c1612c003a7c179a01", checked := Try.checked }
namespace Rows
def none {H : Type} : Left H := { results := [], args := [] }

/-- 'zzlaws_root_b1.FnKeySlotTagOfFills': WHATEVER THE INPUT: true; the input reads as it did. -/
def fnKeySlotTagOfFillsSpec : ChangeSpec := { name := "fnKeySlotTagOfFills", fn := fun _ => fun
  | [d1, d2, d3, d4, d5] => { results := [.lit (.bool true)], args := [d1, d2, d3, d4, d5] }
  | _ => none }
def fnKeySlotTagOfFillsRow : OpenClaim := { program := "qxb6618935a", sum := "0169289a2b03b78e73c951aff7a4f58063392bbc077a32c1612c003a7c179a01", func := "example.com/civil-throttle/civil-throttle/zzlaws_root_b1.FnKeySlotTagOfFills", spec := "fnKeySlotTagOfFills", apart := false }
def FnKeySlotTagOfFillsSaid : Prop := fnKeySlotTagOfFillsRow.holds Try.pinned (OpenSpec.ofChange fnKeySlotTagOfFillsSpec)

/-- ITS FALSE NEIGHBOUR: 'it returns false'. Refute it at one input. -/
def fnKeySlotTagOfFillsWrong : ChangeSpec := { name := "fnKeySlotTagOfFills", fn := fun _ => fun
  | [d1, d2, d3, d4, d5] => { results := [.lit (.bool false)], args := [d1, d2, d3, d4, d5] }
  | _ => none }
def FnKeySlotTagOfFillsWrongFalsely : Prop := fnKeySlotTagOfFillsRow.holds Try.pinned (OpenSpec.ofChange fnKeySlotTagOfFillsWrong)

end Rows
end Go.Proofs.Qxb6618935a
