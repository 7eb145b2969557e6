/-
  No cell of these rows narrows 'for every input' (looked for: loops, veiled, ifaces, maps, wideKeys, modest, calm, conditions, laid).
  DERIVED. THE GIVEN ROWS OF THIS SEAT. 1 by the template 'for every input the law returns true; each argument reads behind the call as it read before'; 0 by the template 'total and deterministic' (their statements: Qxb6616309aFmtTotals.lean).
  GIVEN WITH THE SEED: the statements are not yours to turn. If you find one false, say at which input.
  Laid BY PROGRAM, IN A SANDBOX (cutbox-rows.mjs): the forced cells as the released guide's own fill.sh prints them over the translation 976519962613df09… (all of the seat's roots in one cut). By AI agents, Wed Nov 11 2026. No macro, syntax, notation, axiom, sorry.
-/
import Derived.Test.Qxb6616309aFmtChecked
import GoSem.Claim
import GoSem.ClaimJoined
import GoSem.ClaimMapViews
import Derived.JoinedTies
import Derived.KernelRfl
namespace Go.Proofs.Qxb6616309aFmt
/- THE CELL 'sum', in the pinned program and in every row, IS THE sha256 OF THE DUMP (.gsa) THAT Qxb6616309aFmtProg.lean LOADS. Nothing in Lean hashes anything: it is a label: what it is worth is what the hold of that sum in a sandbox is worth. -/
noncomputable def Tryf.pinned : Pinned := { name := "qxb6616309afmt", sum := "976519962613df094dc014bf80e556b9a7fcd9d84d5ce789456d9664439eab04", checked := Tryf.checked }
namespace Rows
def none {H : Type} : Left H := { results := [], args := [] }

/-- 'zzlaws_internal_check_b1.FnTotalOrderFailsAtFirstDisagreement': WHATEVER THE INPUT: true; the input reads as it did. -/
def fnTotalOrderFailsAtFirstDisagreementSpec : ChangeSpec := { name := "fnTotalOrderFailsAtFirstDisagreement", fn := fun _ => fun
  | [d1, d2] => { results := [.lit (.bool true)], args := [d1, d2] }
  | _ => none }
def fnTotalOrderFailsAtFirstDisagreementRow : OpenClaim := { program := "qxb6616309afmt", sum := "976519962613df094dc014bf80e556b9a7fcd9d84d5ce789456d9664439eab04", func := "example.com/faultline/faultline/zzlaws_internal_check_b1.FnTotalOrderFailsAtFirstDisagreement", spec := "fnTotalOrderFailsAtFirstDisagreement", stops := ["fmt.Sprintf"], inPlace := ["fmt.Sprintf"], unfollowed := true, recurses := true, apart := false }
/-- NO THEOREM (fmt's text is open here; it may be false): for the released tool's asking of the row's closed facts alone. THE STATEMENT IS 'FnTotalOrderFailsAtFirstDisagreementToldSaid' (Qxb6616309aFmtCards.lean). -/
def FnTotalOrderFailsAtFirstDisagreementFormAsk : Prop := fnTotalOrderFailsAtFirstDisagreementRow.holds Tryf.pinned (OpenSpec.ofChange fnTotalOrderFailsAtFirstDisagreementSpec)

/-- ITS FALSE NEIGHBOUR: 'it returns false'. Refute it at one input. -/
def fnTotalOrderFailsAtFirstDisagreementWrong : ChangeSpec := { name := "fnTotalOrderFailsAtFirstDisagreement", fn := fun _ => fun
  | [d1, d2] => { results := [.lit (.bool false)], args := [d1, d2] }
  | _ => none }
def FnTotalOrderFailsAtFirstDisagreementWrongFormAsk : Prop := fnTotalOrderFailsAtFirstDisagreementRow.holds Tryf.pinned (OpenSpec.ofChange fnTotalOrderFailsAtFirstDisagreementWrong)

end Rows
end Go.Proofs.Qxb6616309aFmt
