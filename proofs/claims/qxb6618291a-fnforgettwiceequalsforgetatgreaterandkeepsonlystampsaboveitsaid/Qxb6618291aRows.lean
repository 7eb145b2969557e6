/-
  No cell of these rows narrows 'for every input' (looked for: loops, veiled, ifaces, maps, wideKeys, modest, calm, conditions, laid).
  DERIVED. THE GIVEN ROWS OF THIS SEAT. 1 by the template 'for every input the law returns true; each argument reads behind the call as it read before'; 0 by the template 'total and deterministic' (their statements: Qxb6618291aTotals.lean).
  GIVEN WITH THE SEED: the statements are not yours to turn. If you find one false, say at which input.
  Laid BY PROGRAM, IN A SANDBOX (cutbox-rows.mjs): the forced cells as the released guide's own fill.sh prints them over the translation 4b89df760c40b126… (all of the seat's roots in one cut). By AI agents, Wed Nov 11 2026. No macro, syntax, notation, axiom, sorry.
-/
import Derived.Test.Qxb6618291aChecked
import GoSem.Claim
import GoSem.ClaimJoined
import GoSem.ClaimMapViews
import Derived.JoinedTies
import Derived.KernelRfl
namespace Go.Proofs.Qxb6618291a
/- THE CELL 'sum', in the pinned program and in every row, IS THE sha256 OF THE DUMP (.gsa) THAT Qxb6618291aProg.lean LOADS. Nothing in Lean hashes anything: it is a label: what it is worth is what the hold of that sum in a sandbox is worth. -/
noncomputable def Try.pinned : Pinned := { name := "qxb6618291a", sum := "4b89df760c40b126f03eb6f3fa573dcc38b67f01fe708ef4f9a161b3a817a5fb", checked := Try.checked }
namespace Rows
def none {H : Type} : Left H := { results := [], args := [] }

/-- 'zzlaws_internal_mvto_b1.FnForgetTwiceEqualsForgetAtGreaterAndKeepsOnlyStampsAboveIt': WHATEVER THE INPUT: true; the input reads as it did. -/
def fnForgetTwiceEqualsForgetAtGreaterAndKeepsOnlyStampsAboveItSpec : ChangeSpec := { name := "fnForgetTwiceEqualsForgetAtGreaterAndKeepsOnlyStampsAboveIt", fn := fun _ => fun
  | [d1, d2, d3, d4, d5] => { results := [.lit (.bool true)], args := [d1, d2, d3, d4, d5] }
  | _ => none }
def fnForgetTwiceEqualsForgetAtGreaterAndKeepsOnlyStampsAboveItRow : OpenClaim := { program := "qxb6618291a", sum := "4b89df760c40b126f03eb6f3fa573dcc38b67f01fe708ef4f9a161b3a817a5fb", func := "example.com/palimpsest/palimpsest/zzlaws_internal_mvto_b1.FnForgetTwiceEqualsForgetAtGreaterAndKeepsOnlyStampsAboveIt", spec := "fnForgetTwiceEqualsForgetAtGreaterAndKeepsOnlyStampsAboveIt", unfollowed := true, recurses := true, apart := false }
def FnForgetTwiceEqualsForgetAtGreaterAndKeepsOnlyStampsAboveItSaid : Prop := fnForgetTwiceEqualsForgetAtGreaterAndKeepsOnlyStampsAboveItRow.holds Try.pinned (OpenSpec.ofChange fnForgetTwiceEqualsForgetAtGreaterAndKeepsOnlyStampsAboveItSpec)

/-- ITS FALSE NEIGHBOUR: 'it returns false'. Refute it at one input. -/
def fnForgetTwiceEqualsForgetAtGreaterAndKeepsOnlyStampsAboveItWrong : ChangeSpec := { name := "fnForgetTwiceEqualsForgetAtGreaterAndKeepsOnlyStampsAboveIt", fn := fun _ => fun
  | [d1, d2, d3, d4, d5] => { results := [.lit (.bool false)], args := [d1, d2, d3, d4, d5] }
  | _ => none }
def FnForgetTwiceEqualsForgetAtGreaterAndKeepsOnlyStampsAboveItWrongFalsely : Prop := fnForgetTwiceEqualsForgetAtGreaterAndKeepsOnlyStampsAboveItRow.holds Try.pinned (OpenSpec.ofChange fnForgetTwiceEqualsForgetAtGreaterAndKeepsOnlyStampsAboveItWrong)

end Rows
end Go.Proofs.Qxb6618291a
