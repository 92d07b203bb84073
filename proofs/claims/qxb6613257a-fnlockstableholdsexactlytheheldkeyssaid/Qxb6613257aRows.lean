/-
  No cell of these rows narrows 'for every input' (looked for: loops, veiled, ifaces, maps, wideKeys, modest, calm, conditions, laid).
  DERIVED. THE GIVEN ROWS OF THIS SEAT. 1 by the template 'for every input the law returns true; each argument reads behind the call as it read before'; 0 by the template 'total and deterministic' (their statements: Qxb6613257aTotals.lean).
  GIVEN WITH THE SEED: the statements are not yours to turn. If you find one false, say at which input.
  Laid BY PROGRAM, IN A SANDBOX (cutbox-rows.mjs): the forced cells as the released guide's own fill.sh prints them over the translation e443ba1afdcd56b7… (all of the seat's roots in one cut). By AI agents, Wed Nov 11 2026. No macro, syntax, notation, axiom, sorry.
-/
import Derived.Test.Qxb6613257aChecked
import GoSem.Claim
import GoSem.ClaimJoined
import GoSem.ClaimMapViews
import Derived.JoinedTies
import Derived.KernelRfl
namespace Go.Proofs.Qxb6613257a
/- THE CELL 'sum', in the pinned program and in every row, IS THE sha256 OF THE DUMP (.gsa) THAT Qxb6613257aProg.lean LOADS. Nothing in Lean hashes anything: it is a label: what it is worth is what the hold of that sum in a sandbox is worth. -/
noncomputable def Try.pinned : Pinned := { name := "qxb6613257a", sum := "e443ba1afdcd56b77bdc6c9ed3dccaf778075b97519395ad8732de0b342e821d", checked := Try.checked }
namespace Rows
def none {H : Type} : Left H := { results := [], args := [] }

/-- 'zzlaws_powerdns_b1.FnLocksTableHoldsExactlyTheHeldKeys': WHATEVER THE INPUT: true; the input reads as it did. -/
def fnLocksTableHoldsExactlyTheHeldKeysSpec : ChangeSpec := { name := "fnLocksTableHoldsExactlyTheHeldKeys", fn := fun _ => fun
  | [d] => { results := [.lit (.bool true)], args := [d] }
  | _ => none }
def fnLocksTableHoldsExactlyTheHeldKeysRow : OpenClaim := { program := "qxb6613257a", sum := "e443ba1afdcd56b77bdc6c9ed3dccaf778075b97519395ad8732de0b342e821d", func := "example.com/keymoat/keymoat/zzlaws_powerdns_b1.FnLocksTableHoldsExactlyTheHeldKeys", spec := "fnLocksTableHoldsExactlyTheHeldKeys", inPlace := ["(*internal/sync.Mutex).Lock", "internal/race.Disable", "sync/atomic.CompareAndSwapInt32", "internal/race.Enable", "internal/race.Acquire", "(*internal/sync.Mutex).lockSlow", "internal/sync.runtime_canSpin", "internal/sync.runtime_doSpin", "internal/sync.throw", "internal/sync.runtime_nanotime", "internal/sync.runtime_SemacquireMutex", "sync/atomic.AddInt32", "(*internal/sync.Mutex).Unlock", "internal/race.ReleaseMerge", "(*internal/sync.Mutex).unlockSlow", "internal/sync.fatal", "internal/sync.runtime_Semrelease"], unfollowed := true, recurses := true, apart := false }
def FnLocksTableHoldsExactlyTheHeldKeysSaid : Prop := fnLocksTableHoldsExactlyTheHeldKeysRow.holds Try.pinned (OpenSpec.ofChange fnLocksTableHoldsExactlyTheHeldKeysSpec)

/-- ITS FALSE NEIGHBOUR: 'it returns false'. Refute it at one input. -/
def fnLocksTableHoldsExactlyTheHeldKeysWrong : ChangeSpec := { name := "fnLocksTableHoldsExactlyTheHeldKeys", fn := fun _ => fun
  | [d] => { results := [.lit (.bool false)], args := [d] }
  | _ => none }
def FnLocksTableHoldsExactlyTheHeldKeysWrongFalsely : Prop := fnLocksTableHoldsExactlyTheHeldKeysRow.holds Try.pinned (OpenSpec.ofChange fnLocksTableHoldsExactlyTheHeldKeysWrong)

end Rows
end Go.Proofs.Qxb6613257a
