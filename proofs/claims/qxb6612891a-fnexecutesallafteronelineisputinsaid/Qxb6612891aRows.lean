/-
  No cell of these rows narrows 'for every input' (looked for: loops, veiled, ifaces, maps, wideKeys, modest, calm, conditions, laid).
  DERIVED. THE GIVEN ROWS OF THIS SEAT. 2 by the template 'for every input the law returns true; each argument reads behind the call as it read before'; 0 by the template 'total and deterministic' (their statements: Qxb6612891aTotals.lean).
  GIVEN WITH THE SEED: the statements are not yours to turn. If you find one false, say at which input.
  Laid BY PROGRAM, IN A SANDBOX (cutbox-rows.mjs): the forced cells as the released guide's own fill.sh prints them over the translation c2b3d4662489774f… (all of the seat's roots in one cut). By AI agents, Wed Nov 11 2026. No macro, syntax, notation, axiom, sorry.
-/
import Derived.Test.Qxb6612891aChecked
import GoSem.Claim
import GoSem.ClaimJoined
import GoSem.ClaimMapViews
import Derived.JoinedTies
import Derived.KernelRfl
namespace Go.Proofs.Qxb6612891a
/- THE CELL 'sum', in the pinned program and in every row, IS THE sha256 OF THE DUMP (.gsa) THAT Qxb6612891aProg.lean LOADS. Nothing in Lean hashes anything: it is a label: what it is worth is what the hold of that sum in a sandbox is worth. -/
noncomputable def Try.pinned : Pinned := { name := "qxb6612891a", sum := "c2b3d4662489774f4ecd2e578947dea0e84fd60ff42877890dfcb4f1847a13ff", checked := Try.checked }
namespace Rows
def none {H : Type} : Left H := { results := [], args := [] }

/-- 'zzlaws_root_b1.FnExecutesAllOfAJoinedScreeningAtAnyCut': WHATEVER THE INPUT: true; the input reads as it did. -/
def fnExecutesAllOfAJoinedScreeningAtAnyCutSpec : ChangeSpec := { name := "fnExecutesAllOfAJoinedScreeningAtAnyCut", fn := fun _ => fun
  | [d1, d2] => { results := [.lit (.bool true)], args := [d1, d2] }
  | _ => none }
def fnExecutesAllOfAJoinedScreeningAtAnyCutRow : OpenClaim := { program := "qxb6612891a", sum := "c2b3d4662489774f4ecd2e578947dea0e84fd60ff42877890dfcb4f1847a13ff", func := "example.com/tuoguan/tuoguan/zzlaws_root_b1.FnExecutesAllOfAJoinedScreeningAtAnyCut", spec := "fnExecutesAllOfAJoinedScreeningAtAnyCut", unfollowed := true, recurses := true, apart := false }
def FnExecutesAllOfAJoinedScreeningAtAnyCutSaid : Prop := fnExecutesAllOfAJoinedScreeningAtAnyCutRow.holds Try.pinned (OpenSpec.ofChange fnExecutesAllOfAJoinedScreeningAtAnyCutSpec)

/-- ITS FALSE NEIGHBOUR: 'it returns false'. Refute it at one input. -/
def fnExecutesAllOfAJoinedScreeningAtAnyCutWrong : ChangeSpec := { name := "fnExecutesAllOfAJoinedScreeningAtAnyCut", fn := fun _ => fun
  | [d1, d2] => { results := [.lit (.bool false)], args := [d1, d2] }
  | _ => none }
def FnExecutesAllOfAJoinedScreeningAtAnyCutWrongFalsely : Prop := fnExecutesAllOfAJoinedScreeningAtAnyCutRow.holds Try.pinned (OpenSpec.ofChange fnExecutesAllOfAJoinedScreeningAtAnyCutWrong)

/-- 'zzlaws_root_b1.FnExecutesAllAfterOneLineIsPutIn': WHATEVER THE INPUT: true; the input reads as it did. -/
def fnExecutesAllAfterOneLineIsPutInSpec : ChangeSpec := { name := "fnExecutesAllAfterOneLineIsPutIn", fn := fun _ => fun
  | [d1, d2, d3] => { results := [.lit (.bool true)], args := [d1, d2, d3] }
  | _ => none }
def fnExecutesAllAfterOneLineIsPutInRow : OpenClaim := { program := "qxb6612891a", sum := "c2b3d4662489774f4ecd2e578947dea0e84fd60ff42877890dfcb4f1847a13ff", func := "example.com/tuoguan/tuoguan/zzlaws_root_b1.FnExecutesAllAfterOneLineIsPutIn", spec := "fnExecutesAllAfterOneLineIsPutIn", unfollowed := true, recurses := true, apart := false }
def FnExecutesAllAfterOneLineIsPutInSaid : Prop := fnExecutesAllAfterOneLineIsPutInRow.holds Try.pinned (OpenSpec.ofChange fnExecutesAllAfterOneLineIsPutInSpec)

/-- ITS FALSE NEIGHBOUR: 'it returns false'. Refute it at one input. -/
def fnExecutesAllAfterOneLineIsPutInWrong : ChangeSpec := { name := "fnExecutesAllAfterOneLineIsPutIn", fn := fun _ => fun
  | [d1, d2, d3] => { results := [.lit (.bool false)], args := [d1, d2, d3] }
  | _ => none }
def FnExecutesAllAfterOneLineIsPutInWrongFalsely : Prop := fnExecutesAllAfterOneLineIsPutInRow.holds Try.pinned (OpenSpec.ofChange fnExecutesAllAfterOneLineIsPutInWrong)

end Rows
end Go.Proofs.Qxb6612891a
