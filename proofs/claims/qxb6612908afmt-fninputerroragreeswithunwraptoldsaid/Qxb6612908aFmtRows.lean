/-
  No cell of these rows narrows 'for every input' (looked for: loops, veiled, ifaces, maps, wideKeys, modest, calm, conditions, laid).
  DERIVED. THE GIVEN ROWS OF THIS SEAT. 1 by the template 'for every input the law returns true; each argument reads behind the call as it read before'; 0 by the template 'total and deterministic' (their statements: Qxb6612908aFmtTotals.lean).
  GIVEN WITH THE SEED: the statements are not yours to turn. If you find one false, say at which input.
  Laid BY PROGRAM, IN A SANDBOX (cutbox-rows.mjs): the forced cells as the released guide's own fill.sh prints them over the translation c74b4958b1357d5b… (all of the seat's roots in one cut). By AI agents, Wed Nov 11 2026. No macro, syntax, notation, axiom, sorry.
-/
import Derived.Test.Qxb6612908aFmtChecked
import GoSem.Claim
import GoSem.ClaimJoined
import GoSem.ClaimMapViews
import Derived.JoinedTies
import Derived.KernelRfl
namespace Go.Proofs.Qxb6612908aFmt
/- THE CELL 'sum', in the pinned program and in every row, IS THE sha256 OF THE DUMP (.gsa) THAT Qxb6612908aFmtProg.lean LOADS. Nothing in Lean hashes anything: it is a label: what it is worth is what the hold of that sum in a sandbox is worth. -/
noncomputable def Tryf.pinned : Pinned := { name := "qxb6612908afmt", sum := "c74b4958b1357d5b47acbd27825885368fd77bef0eef670a0cf7129ed3545fe2", checked := Tryf.checked }
namespace Rows
def none {H : Type} : Left H := { results := [], args := [] }

/-- 'zzlaws_pkg_plan_b1.FnInputErrorAgreesWithUnwrap': WHATEVER THE INPUT: true; the input reads as it did. -/
def fnInputErrorAgreesWithUnwrapSpec : ChangeSpec := { name := "fnInputErrorAgreesWithUnwrap", fn := fun _ => fun
  | [d1, d2, d3, d4, d5, d6, d7] => { results := [.lit (.bool true)], args := [d1, d2, d3, d4, d5, d6, d7] }
  | _ => none }
def fnInputErrorAgreesWithUnwrapRow : OpenClaim := { program := "qxb6612908afmt", sum := "c74b4958b1357d5b47acbd27825885368fd77bef0eef670a0cf7129ed3545fe2", func := "example.com/vestline/vestline/zzlaws_pkg_plan_b1.FnInputErrorAgreesWithUnwrap", spec := "fnInputErrorAgreesWithUnwrap", stops := ["fmt.Sprintf, its operands' methods called"], inPlace := ["fmt.Sprintf"], unfollowed := true, recurses := true, apart := false }
/-- NO THEOREM (fmt's text is open here; it may be false): for the released tool's asking of the row's closed facts alone. THE STATEMENT IS 'FnInputErrorAgreesWithUnwrapToldSaid' (Qxb6612908aFmtCards.lean). -/
def FnInputErrorAgreesWithUnwrapFormAsk : Prop := fnInputErrorAgreesWithUnwrapRow.holds Tryf.pinned (OpenSpec.ofChange fnInputErrorAgreesWithUnwrapSpec)

/-- ITS FALSE NEIGHBOUR: 'it returns false'. Refute it at one input. -/
def fnInputErrorAgreesWithUnwrapWrong : ChangeSpec := { name := "fnInputErrorAgreesWithUnwrap", fn := fun _ => fun
  | [d1, d2, d3, d4, d5, d6, d7] => { results := [.lit (.bool false)], args := [d1, d2, d3, d4, d5, d6, d7] }
  | _ => none }
def FnInputErrorAgreesWithUnwrapWrongFormAsk : Prop := fnInputErrorAgreesWithUnwrapRow.holds Tryf.pinned (OpenSpec.ofChange fnInputErrorAgreesWithUnwrapWrong)

end Rows
end Go.Proofs.Qxb6612908aFmt
