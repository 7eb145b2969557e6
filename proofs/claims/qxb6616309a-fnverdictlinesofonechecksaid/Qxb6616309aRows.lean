/-
  No cell of these rows narrows 'for every input' (looked for: loops, veiled, ifaces, maps, wideKeys, modest, calm, conditions, laid).
  DERIVED. THE GIVEN ROWS OF THIS SEAT. 1 by the template 'for every input the law returns true; each argument reads behind the call as it read before'; 0 by the template 'total and deterministic' (their statements: Qxb6616309aTotals.lean).
  GIVEN WITH THE SEED: the statements are not yours to turn. If you find one false, say at which input.
  Laid BY PROGRAM, IN A SANDBOX (cutbox-rows.mjs): the forced cells as the released guide's own fill.sh prints them over the translation da4aaf42b44cd09d… (all of the seat's roots in one cut). By AI agents, Wed Nov 11 2026. No macro, syntax, notation, axiom, sorry.
-/
import Derived.Test.Qxb6616309aChecked
import GoSem.Claim
import GoSem.ClaimJoined
import GoSem.ClaimMapViews
import Derived.JoinedTies
import Derived.KernelRfl
namespace Go.Proofs.Qxb6616309a
/- THE CELL 'sum', in the pinned program and in every row, IS THE sha256 OF THE DUMP (.gsa) THAT Qxb6616309aProg.lean LOADS. Nothing in Lean hashes anything: it is a label: what it is worth is what the hold of that sum in a sandbox is worth. -/
noncomputable def Try.pinned : Pinned := { name := "qxb6616309a", sum := "da4aaf42b44cd09d0567710fa199fa07fa0cef86c4213bac059b8772726c20ee", checked := Try.checked }
namespace Rows
def none {H : Type} : Left H := { results := [], args := [] }

/-- 'zzlaws_internal_check_b1.FnVerdictLinesOfOneCheck': WHATEVER THE INPUT: true; the input reads as it did. -/
def fnVerdictLinesOfOneCheckSpec : ChangeSpec := { name := "fnVerdictLinesOfOneCheck", fn := fun _ => fun
  | [d1, d2, d3] => { results := [.lit (.bool true)], args := [d1, d2, d3] }
  | _ => none }
def fnVerdictLinesOfOneCheckRow : OpenClaim := { program := "qxb6616309a", sum := "da4aaf42b44cd09d0567710fa199fa07fa0cef86c4213bac059b8772726c20ee", func := "example.com/faultline/faultline/zzlaws_internal_check_b1.FnVerdictLinesOfOneCheck", spec := "fnVerdictLinesOfOneCheck", apart := false }
def FnVerdictLinesOfOneCheckSaid : Prop := fnVerdictLinesOfOneCheckRow.holds Try.pinned (OpenSpec.ofChange fnVerdictLinesOfOneCheckSpec)

/-- ITS FALSE NEIGHBOUR: 'it returns false'. Refute it at one input. -/
def fnVerdictLinesOfOneCheckWrong : ChangeSpec := { name := "fnVerdictLinesOfOneCheck", fn := fun _ => fun
  | [d1, d2, d3] => { results := [.lit (.bool false)], args := [d1, d2, d3] }
  | _ => none }
def FnVerdictLinesOfOneCheckWrongFalsely : Prop := fnVerdictLinesOfOneCheckRow.holds Try.pinned (OpenSpec.ofChange fnVerdictLinesOfOneCheckWrong)

end Rows
end Go.Proofs.Qxb6616309a
