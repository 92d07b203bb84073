/-
  DERIVED. GIVEN WITH THE SEED: THE CARDS: each row of Qxb6612908aFmtRows.lean that lists a variable, with what it lists TIED to the program's text (the seventh form; the later family's looks); each row that meets fmt, with fmt's text TOLD by the authors' own Lean function (tested against real Go, not proved from fmt's source: count such statements apart). THE CARD IS WHAT COUNTS. Prove the row's statement (the work); the ties are given (Qxb6612908aFmtTie.lean); close each card by the builder's one call (the guide's Derived/Test/ToyasCard.lean, 'card_holds'). Laid BY PROGRAM, IN A SANDBOX (cutbox-door.mjs). By AI agents, Wed Nov 11 2026. No macro, syntax, notation, axiom, sorry.
-/
import Derived.Test.Qxb6612908aFmtRows
import GoSem.ClaimSeven
namespace Go.Proofs.Qxb6612908aFmt
namespace Rows

/-- THE TOLD CARD OF 'zzlaws_pkg_plan_b1.FnInputErrorAgreesWithUnwrap'. -/
def fnInputErrorAgreesWithUnwrapCard : Claim7 := { stood := { row := fnInputErrorAgreesWithUnwrapRow, standIns := [], harness := (true, "4ea2d0b15c183e46ead366d563f5edad6bbd8960584f8d759fb399665e1b1f00"), looks := false }, told := true, goes := false }
def FnInputErrorAgreesWithUnwrapToldSaid : Prop := Claim7.holds Tryf.pinned (.plain (OpenSpec.ofChange fnInputErrorAgreesWithUnwrapSpec)) fnInputErrorAgreesWithUnwrapCard
/-- ITS FALSE NEIGHBOUR. Refute it at one input. -/
def FnInputErrorAgreesWithUnwrapToldWrongFalsely : Prop := Claim7.holds Tryf.pinned (.plain (OpenSpec.ofChange fnInputErrorAgreesWithUnwrapWrong)) fnInputErrorAgreesWithUnwrapCard
end Rows
end Go.Proofs.Qxb6612908aFmt
