import Derived.Test.Qxb6613257aLock
namespace Go.Proofs.Qxb6613257a
open Go.RowKit

theorem EntAt.only {w w' : World} {L : Nat} {e : Ent} {S : List Nat} (h : EntAt w L e) (hO : Only S w w') (hS : ∀ j, j ≤ 5 → e.b + j ∉ S) : EntAt w' L e :=
  ⟨hO.get h.e0 (hS 0 (by omega)), hO.get h.e1 (hS 1 (by omega)), hO.get h.e2 (hS 2 (by omega)), hO.get h.e3 (hS 3 (by omega)), hO.get h.e4 (hS 4 (by omega)), hO.get h.e5 (hS 5 (by omega))⟩

set_option maxHeartbeats 2000000 in
theorem lockZ {w : World} {L M c : Nat} {k : ByteArray} {tab : List Ent} {es : Array MapEntry} (hL : LocksAt w L M 0) (hM : w.heap[M]? = some (.map es c)) (ht : Tab es.toList tab) (hk : ∀ e ∈ tab, e.key.toList ≠ k.toList) :
    Calls Try.prog 9 #[.pointer (some ⟨L, 0, none⟩), .string k] w fun x w' => x = .returned (.tuple #[.agg #[(⟨k, w.heap.size + 1⟩ : Ent).free], .nilIface]) ∧
      w'.heap[M]? = some (.map (es.push { key := .string k, val := .pointer (some ⟨w.heap.size + 1 + 4, 0, none⟩), born := c }) (c + 1)) ∧ EntAt w' L ⟨k, w.heap.size + 1⟩ ∧ Only [M] w w' := by
  have A1 : Only [] w (w.alloc (.cells #[.nilFunc] 29)) := (Only.refl _ w).alloc _
  have b0 := new_of (w := w) (i := w.heap.size) (o := .cells #[.nilFunc] 29) rfl
  have hs1 : (w.alloc (.cells #[.nilFunc] 29)).heap.size = w.heap.size + 1 := by simp
  have HC := hide (lockL (w := w.alloc (.cells #[.nilFunc] 29)) (k := k) (L := L) (A1.get hL (by simp)) (A1.get hM (by simp)) ht hk)
  have HM := hide (lt_of hM)
  have HA := hide (And.intro A1 b0)
  rw [hs1] at HC
  clear A1 hL hM ht hk b0 hs1
  generalize hw1 : w.alloc (.cells #[.nilFunc] 29) = w1 at *
  have H1 := hide hw1
  clear hw1
  go_enter Try.func9, Try.ntmps9
  go_wp2_with fail
  rw [H1.out]
  refine (background w1).mono ?_
  rintro e w' ⟨rfl, rfl⟩
  go_wp2_with fail
  refine HC.out.mono ?_
  rintro e w2 ⟨rfl, hM2, hE2, hO2⟩
  have b1 := hO2.get HA.out.2 (by simp; have := HM.out; omega)
  have x0 : w2.cell? ⟨w.heap.size, 0, none⟩ = some .nilFunc := cell_of b1 (by rfl)
  have f0 := frozen_of b1 0
  have H2 := hide (And.intro hM2 (And.intro hE2 hO2))
  have HB := hide b1
  clear hM2 hE2 hO2 b1
  unfold Ent.free at *
  go_wp2_with fail
  obtain ⟨hM2, hE2, hO2⟩ := H2.out
  have hMs := HM.out
  have hA := HA.out.1
  have hO3 : ∀ v, Only [w.heap.size] w2 (w2.setCell ⟨w.heap.size, 0, none⟩ v) := fun v => (Only.refl _ w2).setCell (by simp) _
  refine bodyPost_ret (v := .tuple #[.agg #[(⟨k, w.heap.size + 1⟩ : Ent).free], .nilIface]) (by simp [results, Try.results9, go_sem, x0, Ent.free]) rfl ⟨rfl, ?_, ?_, ?_⟩
  · exact (hO3 _).get hM2 (by simp; omega)
  · exact hE2.only (hO3 _) (fun j _ => by simp; omega)
  · exact ((hA.mono (by simp)).trans hO2).setNew (Nat.le_refl _) _
end Go.Proofs.Qxb6613257a
