import Derived.Test.Qxb6613257aMap
import Derived.WalkKit
import Derived.Below
import Derived.BigRegion
import Derived.RegionTactic
namespace Go.Proofs.Qxb6613257a
open Go.RowKit

theorem hide {p : Prop} (h : p) : Hid p := h

/-- the block of the locks: mutex free, the map's block -/
def LocksAt (w : World) (L M : Nat) (st : Int) : Prop := w.heap[L]? = some (.cells #[.int .i32 st, .int .u32 0, .map (some M)] 46)

theorem LocksAt.c0 {w : World} {L M : Nat} {st : Int} (h : LocksAt w L M st) : w.cell? ⟨L, 0, none⟩ = some (.int .i32 st) := by simp [World.cell?, show w.heap[L]? = _ from h]
theorem LocksAt.c2 {w : World} {L M : Nat} {st : Int} (h : LocksAt w L M st) : w.cell? ⟨L, 2, none⟩ = some (.map (some M)) := by simp [World.cell?, show w.heap[L]? = _ from h]
theorem LocksAt.f {w : World} {L M : Nat} {st : Int} (h : LocksAt w L M st) (i : Nat) : w.frozen? ⟨L, i, none⟩ = false := by simp [World.frozen?, show w.heap[L]? = _ from h]

theorem newLocks (w : World) :
    Calls Try.prog 5 #[] w fun e w' => e = .returned (.pointer (some ⟨w.heap.size + 1, 0, none⟩)) ∧ w' = (w.alloc (.map #[] 0)).alloc (.cells #[.int .i32 0, .int .u32 0, .map (some w.heap.size)] 46) := by
  have hmm : ∀ w, (Instr.makeMap 37 none).run Try.prog w = .ok (.map (some w.heap.size)) (w.alloc (.map #[] 0)) := fun w => by simp [Instr.makeMap, go_sem]
  go_enter Try.func5, Try.ntmps5
  go_wp2
  go_ret
  exact ⟨rfl, rfl⟩

theorem entries {w : World} {L M c : Nat} {st : Int} {es : Array MapEntry} (hL : LocksAt w L M st) (hM : w.heap[M]? = some (.map es c)) :
    Calls Try.prog 7 #[.pointer (some ⟨L, 0, none⟩)] w fun e w' => e = .returned (.int .i64 es.size) ∧ w' = w := by
  have c2 := hL.c2
  have hl := len_map hM
  clear hL hM
  go_enter Try.func7, Try.ntmps7
  go_wp2
  go_ret
  exact ⟨rfl, rfl⟩

theorem has_no {w : World} {L M c : Nat} {st : Int} {es : Array MapEntry} {k : ByteArray} {tab : List Ent} (hL : LocksAt w L M st) (hM : w.heap[M]? = some (.map es c)) (ht : Tab es.toList tab) (hk : ∀ e ∈ tab, e.key.toList ≠ k.toList) :
    Calls Try.prog 8 #[.pointer (some ⟨L, 0, none⟩), .string k] w fun e w' => e = .returned (.bool false) ∧ w' = w := by
  have c2 := hL.c2
  have hl := look_none hM ht hk true
  clear hL hM ht hk
  go_enter Try.func8, Try.ntmps8
  go_wp2
  go_ret
  exact ⟨rfl, rfl⟩

theorem has_yes {w : World} {L M c : Nat} {st : Int} {es : Array MapEntry} {k : ByteArray} {b : Nat} {l r : List Ent} (hL : LocksAt w L M st) (hM : w.heap[M]? = some (.map es c)) (ht : Tab es.toList (l ++ ⟨k, b⟩ :: r)) (hk : ∀ e ∈ l, e.key.toList ≠ k.toList) :
    Calls Try.prog 8 #[.pointer (some ⟨L, 0, none⟩), .string k] w fun e w' => e = .returned (.bool true) ∧ w' = w := by
  have c2 := hL.c2
  have hl := look_some hM ht hk true
  clear hL hM ht hk
  go_enter Try.func8, Try.ntmps8
  go_wp2
  go_ret
  exact ⟨rfl, rfl⟩

theorem users_one {w : World} {L M c : Nat} {st : Int} {es : Array MapEntry} {k : ByteArray} {b : Nat} {l r : List Ent} (hL : LocksAt w L M st) (hM : w.heap[M]? = some (.map es c)) (ht : Tab es.toList (l ++ ⟨k, b⟩ :: r)) (hk : ∀ e ∈ l, e.key.toList ≠ k.toList)
    (hu : w.cell? ⟨b + 4, 1, none⟩ = some (.int .i64 1)) :
    Calls Try.prog 10 #[.pointer (some ⟨L, 0, none⟩), .string k] w fun e w' => e = .returned (.int .i64 1) ∧ w' = w := by
  have c2 := hL.c2
  have hl := look_some hM ht hk false
  clear hL hM ht hk
  go_enter Try.func10, Try.ntmps10
  go_wp2
  go_ret
  exact ⟨rfl, rfl⟩

theorem background (w : World) :
    Calls Try.prog 12 #[] w fun e w' => e = .returned (.iface 62 (.agg #[])) ∧ w' = w := by
  go_enter Try.func12, Try.ntmps12
  go_wp2
  go_ret
  exact ⟨rfl, rfl⟩
end Go.Proofs.Qxb6613257a
