/-
  DERIVED. GIVEN WITH THE SEED: THE CARDS: each row of Qxb6616309aFmtRows.lean that lists a variable, with what it lists TIED to the program's text (the seventh form; the later family's looks); each row that meets fmt, with fmt's text TOLD by the authors' own Lean function (tested against real Go, not proved from fmt's source: count such statements apart). THE CARD IS WHAT COUNTS. Prove the row's statement (the work); the ties are given (Qxb6616309aFmtTie.lean); close each card by the builder's one call (the guide's Derived/Test/ToyasCard.lean, 'card_holds'). Laid BY PROGRAM, IN A SANDBOX (cutbox-door.mjs). By AI agents, Wed Nov 11 2026. No macro, syntax, notation, axiom, sorry.
-/
import Derived.Test.Qxb6616309aFmtRows
import GoSem.ClaimSeven
namespace Go.Proofs.Qxb6616309aFmt
namespace Rows

/-- THE TOLD CARD OF 'zzlaws_internal_check_b1.FnTotalOrderFailsAtFirstDisagreement'. -/
def fnTotalOrderFailsAtFirstDisagreementCard : Claim7 := { stood := { row := fnTotalOrderFailsAtFirstDisagreementRow, standIns := [], harness := (true, "2415c97b23878344b8818cede55219761f43e40daf5004845a4707146ab7f38e"), looks := false }, told := true, goes := false }
def FnTotalOrderFailsAtFirstDisagreementToldSaid : Prop := Claim7.holds Tryf.pinned (.plain (OpenSpec.ofChange fnTotalOrderFailsAtFirstDisagreementSpec)) fnTotalOrderFailsAtFirstDisagreementCard
/-- ITS FALSE NEIGHBOUR. Refute it at one input. -/
def FnTotalOrderFailsAtFirstDisagreementToldWrongFalsely : Prop := Claim7.holds Tryf.pinned (.plain (OpenSpec.ofChange fnTotalOrderFailsAtFirstDisagreementWrong)) fnTotalOrderFailsAtFirstDisagreementCard
end Rows
end Go.Proofs.Qxb6616309aFmt
