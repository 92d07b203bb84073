import Derived.Test.Qxb6612891aSize
import Derived.BigRegion
import Derived.RegionTactic
import Derived.ChangeAlike
namespace Go.Proofs.Qxb6612891a
open Go.RowKit

theorem Try.info34 : (Try.prog.info? 34).map (fun i => (i.zero, i.size, i.bytes)) = some (some (.agg #[.string ⟨#[]⟩, .string ⟨#[]⟩, .string ⟨#[]⟩]), 3, 48) := by kernel_rfl

/-- what holds of the made row behind k rounds: the first k lines are laid -/
def Laid (w : World) (B n k : Nat) (L : Nat → Line) : Prop :=
  ∃ xs, w.ownsRow B 34 3 (.slice (some ⟨B, 0, none⟩) n n) n xs ∧ ∀ j, j < k → xs[j * 3]? = some (.string (L j).1) ∧ xs[j * 3 + 1]? = some (.string (L j).2.1) ∧ xs[j * 3 + 2]? = some (.string (L j).2.2)

theorem Laid.step {w : World} {B n k : Nat} {L : Nat → Line} (h : Laid w B n k L) (hlt : k < n) :
    Laid (((w.setCell ⟨B, k * 3, none⟩ (.string (L k).1)).setCell ⟨B, k * 3 + 1, none⟩ (.string (L k).2.1)).setCell ⟨B, k * 3 + 2, none⟩ (.string (L k).2.2)).drew B n (k + 1) L := by
  obtain ⟨xs, hown, hxs⟩ := h
  have hlen : xs.length = n * 3 := hown.1
  refine ⟨_, ((((hown.stored _ _).1).stored _ _).1.stored _ _).1.drew, fun j hj => ?_⟩
  simp only [List.getElem?_set, List.length_set]
  by_cases hjk : j = k
  · subst hjk
    refine ⟨?_, ?_, ?_⟩
    · rw [if_neg (by omega), if_neg (by omega), if_pos rfl, if_pos (by omega)]
    · rw [if_neg (by omega), if_pos rfl, if_pos (by omega)]
    · rw [if_pos rfl, if_pos (by omega)]
  · obtain ⟨g0, g1, g2⟩ := hxs j (by omega)
    refine ⟨?_, ?_, ?_⟩
    · rw [if_neg (by omega), if_neg (by omega), if_neg (by omega)]; exact g0
    · rw [if_neg (by omega), if_neg (by omega), if_neg (by omega)]; exact g1
    · rw [if_neg (by omega), if_neg (by omega), if_neg (by omega)]; exact g2

theorem Laid.cells {w : World} {B n : Nat} {L : Nat → Line} (h : Laid w B n n L) : CellsAt w B 0 n L := by
  obtain ⟨xs, hown, hxs⟩ := h
  refine ⟨(hown.lt B rfl).2, fun j hj => ?_⟩
  obtain ⟨g0, g1, g2⟩ := hxs j hj
  simp only [Nat.zero_add]
  exact ⟨by rw [hown.cellAt _ (by omega)]; exact g0, by rw [hown.cellAt _ (by omega)]; exact g1, by rw [hown.cellAt _ (by omega)]; exact g2⟩

theorem CellsAt.setCell {w : World} {b off n : Nat} {L : Nat → Line} (h : CellsAt w b off n L) {a : Addr} (ha : a.block ≠ b) (u : Value) : CellsAt (w.setCell a u) b off n L := by
  obtain ⟨h2, h3⟩ := h
  have hh : (w.setCell a u).heap[b]? = w.heap[b]? := Below.heap_setCell w a u b (fun e => ha e.symm)
  refine ⟨by simpa using h2, fun j hj => ?_⟩
  obtain ⟨g0, g1, g2⟩ := h3 j hj
  exact ⟨(World.cell?_of_block (w := w) hh).trans g0, (World.cell?_of_block (w := w) hh).trans g1, (World.cell?_of_block (w := w) hh).trans g2⟩

set_option maxHeartbeats 1000000 in
theorem screen_some (b off n c : Nat) (L : Nat → Line) (hm : n ≤ 1000000) (w : World) (hc : CellsAt w b off n L) :
    Calls Try.prog 7 #[.slice (some ⟨b, off, none⟩) n c] w fun e w' => ∃ ao, e = .returned (.agg #[.slice ao n n]) ∧ LinesAt w' ao n L ∧ Below w.heap.size w w' := by
  have hB1 : Below w.heap.size w (w.alloc (.cells #[.slice none 0 0] 26)) := (Below.refl _ _).alloc (Nat.le_refl _) _
  have HC := hide (hc.below hB1 hc.1)
  have hbs := hc.1
  clear hc
  obtain ⟨i34, hi34, hz34, hs34, hb34⟩ := info_parts Try.info34
  have hnil := fun w => Lib.run_eql_slice_nil (P := Try.prog) w 22 
  go_enter Try.func7, Try.ntmps7
  go_wp2_with (first | (at_make; refine wpList_make_full _ rfl _ _ _ rfl (w.heap.size + 1) _ _ _ _ Try.underlying24 hi34 hz34 hs34 _ _ _ _ n rfl rfl rfl rfl (by rw [hb34]; omega) (by unfold maxLen; omega) ?_ ?_))
  · simp
  intro w1 hown hgr
  have hbel : Below (w.heap.size + 1) (w.alloc (.cells #[.slice none 0 0] 26)) w1 := (Below.refl _ _).grown hgr (by simp) (by simp)
  have hlaid := hide (show Laid w1 (w.heap.size + 1) n 0 L from ⟨_, hown, fun j hj => absurd hj (Nat.not_lt_zero _)⟩)
  clear hown hgr hnil hi34 hz34 hs34 hb34 i34
  have HB1 := hide hB1
  clear hB1
  go_wp2
  go_loopw [4] (fun i wr => ∃ k : Nat, k ≤ n ∧ i = .int .i64 k ∧ Hid (Laid wr (w.heap.size + 1) n k L) ∧ Below (w.heap.size + 1) (w.alloc (.cells #[.slice none 0 0] 26)) wr) (fun i _ => n - (intOf i).toNat)
  case atStart => exact ⟨0, Nat.zero_le _, rfl, hlaid, hbel⟩
  case round =>
    clear hlaid hbel
    obtain ⟨k, hk, rfl, hall, hbw⟩ := hrel
    by_cases hlt : k < n
    · obtain ⟨q0, q1, q2⟩ := (HC.out.below hbw (Nat.lt_succ_of_lt hbs)).2 k hlt
      obtain ⟨xs, hown, hxs⟩ := hall.out
      have f0 := hown.frozenAt (k * 3)
      have f1 := hown.frozenAt (k * 3 + 1)
      have f2 := hown.frozenAt (k * 3 + 2)
      have hlen : xs.length = n * 3 := hown.1
      have r0 : ∃ v, wr.cell? ⟨w.heap.size + 1, k * 3, none⟩ = some v := ⟨xs[k * 3]'(by omega), by rw [hown.cellAt (k * 3) (by omega)]; simp⟩
      have r1 : ∃ v, wr.cell? ⟨w.heap.size + 1, k * 3 + 1, none⟩ = some v := ⟨xs[k * 3 + 1]'(by omega), by rw [hown.cellAt (k * 3 + 1) (by omega)]; simp⟩
      have r2 : ∃ v, wr.cell? ⟨w.heap.size + 1, k * 3 + 2, none⟩ = some v := ⟨xs[k * 3 + 2]'(by omega), by rw [hown.cellAt (k * 3 + 2) (by omega)]; simp⟩
      obtain ⟨v0, r0⟩ := r0
      obtain ⟨v1, r1⟩ := r1
      obtain ⟨v2, r2⟩ := r2
      clear hown hxs hlen
      go_wp2
      go_region
      go_wp2
      go_roundw
      case rel => exact ⟨k + 1, by omega, by go_num, hall.out.step hlt, (((hbw.setCell (Nat.le_refl _) _).setCell (Nat.le_refl _) _).setCell (Nat.le_refl _) _).drew⟩
      case measure => simp [intOf]; omega
    · obtain rfl : k = n := by omega
      have c0 : wr.cell? ⟨w.heap.size, 0, none⟩ = some (.slice none 0 0) := by rw [hbw.cell (Nat.lt_succ_self _)]; simp
      have z0 : wr.frozen? ⟨w.heap.size, 0, none⟩ = false := by rw [hbw.frozen (Nat.lt_succ_self _)]; simp
      go_wp2
      refine bodyPost_ret (v := .agg #[.slice (some ⟨w.heap.size + 1, 0, none⟩) k k]) (by simp [results, Try.results7, go_sem, c0]) rfl ⟨_, rfl, .inr ⟨_, _, rfl, hall.out.cells.setCell (by simp) _⟩, ?_⟩
      exact (HB1.out.trans (hbw.mono (Nat.le_succ _))).setCell (Nat.le_refl _) _

set_option maxHeartbeats 1000000 in
theorem screen_empty (a : Addr) (c : Nat) (w : World) :
    Calls Try.prog 7 #[.slice (some a) 0 c] w fun e w' => ∃ ao, e = .returned (.agg #[.slice ao 0 0]) ∧ Below w.heap.size w w' := by
  have hB1 : Below w.heap.size w (w.alloc (.cells #[.slice none 0 0] 26)) := (Below.refl _ _).alloc (Nat.le_refl _) _
  obtain ⟨i34, hi34, hz34, hs34, hb34⟩ := info_parts Try.info34
  have hnil := fun w => Lib.run_eql_slice_nil (P := Try.prog) w 22 
  go_enter Try.func7, Try.ntmps7
  go_wp2_with (first | (at_make; refine wpList_make_full _ rfl _ _ _ rfl (w.heap.size + 1) _ _ _ _ Try.underlying24 hi34 hz34 hs34 _ _ _ _ 0 rfl rfl rfl rfl (by rw [hb34]; omega) (by unfold maxLen; omega) ?_ ?_))
  · simp
  intro w1 hown hgr
  have hbel : Below (w.heap.size + 1) (w.alloc (.cells #[.slice none 0 0] 26)) w1 := (Below.refl _ _).grown hgr (by simp) (by simp)
  clear hown hgr hnil hi34 hz34 hs34 hb34 i34
  have c0 : w1.cell? ⟨w.heap.size, 0, none⟩ = some (.slice none 0 0) := by rw [hbel.cell (Nat.lt_succ_self _)]; simp
  have z0 : w1.frozen? ⟨w.heap.size, 0, none⟩ = false := by rw [hbel.frozen (Nat.lt_succ_self _)]; simp
  have HB1 := hide hB1
  clear hB1
  go_wp2
  refine wp_loop_rounds 1 ?_
  rw [rounds_succ]
  go_wp2
  refine bodyPost_ret (v := .agg #[.slice (some ⟨w.heap.size + 1, 0, none⟩) 0 0]) (by simp [results, Try.results7, go_sem, c0]) rfl ⟨_, rfl, ?_⟩
  exact (HB1.out.trans (hbel.mono (Nat.le_succ _))).setCell (Nat.le_refl _) _

set_option maxHeartbeats 1000000 in
theorem screen_nil (w : World) :
    Calls Try.prog 7 #[.slice none 0 0] w fun e w' => ∃ ao, e = .returned (.agg #[.slice ao 0 0]) ∧ Below w.heap.size w w' := by
  have hnil := fun w => Lib.run_eql_slice_nil (P := Try.prog) w 22 
  go_enter Try.func7, Try.ntmps7
  go_wp2
  refine bodyPost_ret (v := .agg #[.slice none 0 0]) (by simp [results, Try.results7, go_sem]) rfl ⟨_, rfl, ?_⟩
  exact (Below.refl _ _).alloc (Nat.le_refl _) _

/-- zzScreening: the lines stand in the screening as they were handed in (a nil slice is one without lines) -/
theorem screen_any (ao : Option Addr) (n c : Nat) (L : Nat → Line) (hnc : ao = none → c = 0) (hm : n ≤ 1000000) (w : World) (hl : LinesAt w ao n L) :
    Calls Try.prog 7 #[.slice ao n c] w fun e w' => ∃ ao', e = .returned (.agg #[.slice ao' n n]) ∧ LinesAt w' ao' n L ∧ Below w.heap.size w w' := by
  rcases hl with rfl | ⟨b, off, rfl, hc⟩
  · cases ao with
    | none =>
      obtain rfl := hnc rfl
      refine (screen_nil w).mono ?_
      rintro e w' ⟨ao', rfl, hb⟩
      exact ⟨ao', rfl, .inl rfl, hb⟩
    | some a =>
      refine (screen_empty a c w).mono ?_
      rintro e w' ⟨ao', rfl, hb⟩
      exact ⟨ao', rfl, .inl rfl, hb⟩
  · exact screen_some b off n c L hm w hc

end Go.Proofs.Qxb6612891a
