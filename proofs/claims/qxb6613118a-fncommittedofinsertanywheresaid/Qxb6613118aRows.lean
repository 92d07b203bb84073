/-
  No cell of these rows narrows 'for every input' (looked for: loops, veiled, ifaces, maps, wideKeys, modest, calm, conditions, laid).
  DERIVED. THE GIVEN ROWS OF THIS SEAT. 2 by the template 'for every input the law returns true; each argument reads behind the call as it read before'; 0 by the template 'total and deterministic' (their statements: Qxb6613118aTotals.lean).
  GIVEN WITH THE SEED: the statements are not yours to turn. If you find one false, say at which input.
  Laid BY PROGRAM, IN A SANDBOX (cutbox-rows.mjs): the forced cells as the released guide's own fill.sh prints them over the translation 7b426b656b2bf7ef… (all of the seat's roots in one cut). By AI agents, Wed Nov 11 2026. No macro, syntax, notation, axiom, sorry.
-/
import Derived.Test.Qxb6613118aChecked
import GoSem.Claim
import GoSem.ClaimJoined
import GoSem.ClaimMapViews
import Derived.JoinedTies
import Derived.KernelRfl
namespace Go.Proofs.Qxb6613118a
/- THE CELL 'sum', in the pinned program and in every row, IS THE sha256 OF THE DUMP (.gsa) THAT Qxb6613118aProg.lean LOADS. Nothing in Lean hashes anything: it is a label: what it is worth is what the hold of that sum in a sandbox is worth. -/
noncomputable def Try.pinned : Pinned := { name := "qxb6613118a", sum := "7b426b656b2bf7efff15638e795235c91f914a840b001b9acd9cc9f1f4447e5d", checked := Try.checked }
namespace Rows
def none {H : Type} : Left H := { results := [], args := [] }

/-- 'zzlaws_pkg_client_b1.FnCommittedOfCutsAtAnyPlace': WHATEVER THE INPUT: true; the input reads as it did. -/
def fnCommittedOfCutsAtAnyPlaceSpec : ChangeSpec := { name := "fnCommittedOfCutsAtAnyPlace", fn := fun _ => fun
  | [d1, d2] => { results := [.lit (.bool true)], args := [d1, d2] }
  | _ => none }
def fnCommittedOfCutsAtAnyPlaceRow : OpenClaim := { program := "qxb6613118a", sum := "7b426b656b2bf7efff15638e795235c91f914a840b001b9acd9cc9f1f4447e5d", func := "example.com/pactline/pactline/zzlaws_pkg_client_b1.FnCommittedOfCutsAtAnyPlace", spec := "fnCommittedOfCutsAtAnyPlace", apart := false }
def FnCommittedOfCutsAtAnyPlaceSaid : Prop := fnCommittedOfCutsAtAnyPlaceRow.holds Try.pinned (OpenSpec.ofChange fnCommittedOfCutsAtAnyPlaceSpec)

/-- ITS FALSE NEIGHBOUR: 'it returns false'. Refute it at one input. -/
def fnCommittedOfCutsAtAnyPlaceWrong : ChangeSpec := { name := "fnCommittedOfCutsAtAnyPlace", fn := fun _ => fun
  | [d1, d2] => { results := [.lit (.bool false)], args := [d1, d2] }
  | _ => none }
def FnCommittedOfCutsAtAnyPlaceWrongFalsely : Prop := fnCommittedOfCutsAtAnyPlaceRow.holds Try.pinned (OpenSpec.ofChange fnCommittedOfCutsAtAnyPlaceWrong)

/-- 'zzlaws_pkg_client_b1.FnCommittedOfInsertAnywhere': WHATEVER THE INPUT: true; the input reads as it did. -/
def fnCommittedOfInsertAnywhereSpec : ChangeSpec := { name := "fnCommittedOfInsertAnywhere", fn := fun _ => fun
  | [d1, d2, d3] => { results := [.lit (.bool true)], args := [d1, d2, d3] }
  | _ => none }
def fnCommittedOfInsertAnywhereRow : OpenClaim := { program := "qxb6613118a", sum := "7b426b656b2bf7efff15638e795235c91f914a840b001b9acd9cc9f1f4447e5d", func := "example.com/pactline/pactline/zzlaws_pkg_client_b1.FnCommittedOfInsertAnywhere", spec := "fnCommittedOfInsertAnywhere", apart := false }
def FnCommittedOfInsertAnywhereSaid : Prop := fnCommittedOfInsertAnywhereRow.holds Try.pinned (OpenSpec.ofChange fnCommittedOfInsertAnywhereSpec)

/-- ITS FALSE NEIGHBOUR: 'it returns false'. Refute it at one input. -/
def fnCommittedOfInsertAnywhereWrong : ChangeSpec := { name := "fnCommittedOfInsertAnywhere", fn := fun _ => fun
  | [d1, d2, d3] => { results := [.lit (.bool false)], args := [d1, d2, d3] }
  | _ => none }
def FnCommittedOfInsertAnywhereWrongFalsely : Prop := fnCommittedOfInsertAnywhereRow.holds Try.pinned (OpenSpec.ofChange fnCommittedOfInsertAnywhereWrong)

end Rows
end Go.Proofs.Qxb6613118a
