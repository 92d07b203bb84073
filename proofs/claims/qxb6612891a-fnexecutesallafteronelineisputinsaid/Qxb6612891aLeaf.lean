import Derived.Test.Qxb6612891aRows
import Derived.WalkKit
import Derived.WalkSpells
import Derived.WalkLawsBesides
namespace Go.Proofs.Qxb6612891a
open Go.RowKit

theorem hide {p : Prop} (h : p) : Hid p := h

/-- is the outcome's text 'execute'? -/
def isExe (b : ByteArray) : Bool := b.toList == [101, 120, 101, 99, 117, 116, 101]

abbrev Line := ByteArray × ByteArray × ByteArray

/-- each of the first n lines' outcome is 'execute' -/
def allExe (n : Nat) (L : Nat → Line) : Bool := (List.range n).all fun j => isExe (L j).2.1

theorem allExe_iff (n : Nat) (L : Nat → Line) : allExe n L = true ↔ ∀ j, j < n → isExe (L j).2.1 = true := by
  simp [allExe, List.all_eq_true]

theorem allExe_succ (n : Nat) (L : Nat → Line) : allExe (n + 1) L = (allExe n L && isExe (L n).2.1) := by
  simp [allExe, List.range_succ]

theorem allExe_false {n k : Nat} {L : Nat → Line} (h : k < n) (hk : isExe (L k).2.1 = false) : allExe n L = false := by
  cases h1 : allExe n L with
  | false => rfl
  | true => rw [(allExe_iff n L).1 h1 k h] at hk; simp at hk

/-- the lines' cells, three a line, from ⟨b, off⟩ on -/
def CellsAt (w : World) (b off n : Nat) (L : Nat → Line) : Prop :=
  b < w.heap.size ∧ ∀ j, j < n → w.cell? ⟨b, off + j * 3, none⟩ = some (.string (L j).1) ∧ w.cell? ⟨b, off + j * 3 + 1, none⟩ = some (.string (L j).2.1) ∧ w.cell? ⟨b, off + j * 3 + 2, none⟩ = some (.string (L j).2.2)

/-- the lines lie in memory from the slice's address on; of an empty slice's address nothing is said -/
def LinesAt (w : World) (ao : Option Addr) (n : Nat) (L : Nat → Line) : Prop :=
  n = 0 ∨ ∃ b off, ao = some ⟨b, off, none⟩ ∧ CellsAt w b off n L

theorem CellsAt.below {w w' : World} {b off n B : Nat} {L : Nat → Line} (h : CellsAt w b off n L) (hb : Below B w w') (hB : b < B) : CellsAt w' b off n L := by
  obtain ⟨h2, h3⟩ := h
  refine ⟨Nat.lt_of_lt_of_le h2 hb.size, fun j hj => ?_⟩
  obtain ⟨g0, g1, g2⟩ := h3 j hj
  exact ⟨by rw [hb.cell (by exact hB)]; exact g0, by rw [hb.cell (by exact hB)]; exact g1, by rw [hb.cell (by exact hB)]; exact g2⟩

theorem LinesAt.below {w w' : World} {ao : Option Addr} {n : Nat} {L : Nat → Line} (h : LinesAt w ao n L) (hb : Below w.heap.size w w') : LinesAt w' ao n L := by
  rcases h with h | ⟨b, off, h1, h2⟩
  · exact .inl h
  · exact .inr ⟨b, off, h1, h2.below hb h2.1⟩

set_option maxHeartbeats 400000 in
theorem pred_any (a b c : ByteArray) (w : World) :
    Calls Try.prog 11 #[.agg #[.string a, .string b, .string c]] w fun e w' => e = .returned (.bool (!isExe b)) ∧ Below w.heap.size w w' := by
  go_enter Try.func11, Try.ntmps11
  go_wp2
  go_ret
  exact ⟨rfl, (Below.refl _ _).alloc (Nat.le_refl _) _⟩

set_option maxHeartbeats 400000 in
theorem index_some (b off n c : Nat) (L : Nat → Line) (hm : n ≤ maxLen) (w : World) (hc : CellsAt w b off n L) :
    Calls Try.prog 12 #[.slice (some ⟨b, off, none⟩) n c, .func (.func 11) #[] #[]] w fun e w' => ∃ r : Int, e = .returned (.int .i64 r) ∧ decide (0 ≤ r) = !allExe n L ∧ Below w.heap.size w w' := by
  unfold maxLen at hm
  have HC := hide hc
  clear hc
  go_enter Try.func12, Try.ntmps12
  go_wp2
  go_loopw [8] (fun i wr => ∃ k : Nat, k ≤ n ∧ i = .int .i64 k ∧ Hid (allExe k L = true) ∧ Below w.heap.size w wr) (fun i _ => n - (intOf i).toNat)
  case atStart => exact ⟨0, Nat.zero_le _, rfl, rfl, Below.refl _ _⟩
  case round =>
    obtain ⟨k, hk, rfl, hall, hbw⟩ := hrel
    by_cases hlt : k < n
    · have hbb := HC.out.1
      obtain ⟨q0, q1, q2⟩ := (HC.out.below hbw HC.out.1).2 k hlt
      cases hx : isExe (L k).2.1 with
      | true =>
        have HX := hide hx
        clear hx
        go_wp2_with fail
        refine (pred_any _ _ _ _).mono ?_
        rintro e w2 ⟨rfl, hb2⟩
        rw [HX.out]
        go_wp2
        go_roundw
        case rel => exact ⟨k + 1, by omega, by go_num, by rw [Hid, allExe_succ, hall.out, HX.out]; rfl, hbw.trans (hb2.mono hbw.size)⟩
        case measure => simp [intOf]; omega
      | false =>
        have HX := hide hx
        clear hx
        go_wp2_with fail
        refine (pred_any _ _ _ _).mono ?_
        rintro e w2 ⟨rfl, hb2⟩
        rw [HX.out]
        go_wp2
        go_ret
        exact ⟨_, rfl, by rw [allExe_false hlt HX.out]; simp, hbw.trans (hb2.mono hbw.size)⟩
    · obtain rfl : k = n := by omega
      go_wp2
      go_ret
      exact ⟨_, rfl, by rw [hall.out]; simp, hbw⟩

set_option maxHeartbeats 400000 in
theorem index_none (ao : Option Addr) (c : Nat) (w : World) :
    Calls Try.prog 12 #[.slice ao 0 c, .func (.func 11) #[] #[]] w fun e w' => e = .returned (.int .i64 (-1)) ∧ w' = w := by
  go_enter Try.func12, Try.ntmps12
  go_wp2
  refine wp_loop_rounds 1 ?_
  rw [rounds_succ]
  go_wp2
  go_ret
  exact ⟨rfl, rfl⟩

/-- slices.IndexFunc at the test 'outcome != execute': at least 0 just where not all execute -/
theorem index_any (ao : Option Addr) (n c : Nat) (L : Nat → Line) (hm : n ≤ maxLen) (w : World) (hl : LinesAt w ao n L) :
    Calls Try.prog 12 #[.slice ao n c, .func (.func 11) #[] #[]] w fun e w' => ∃ r : Int, e = .returned (.int .i64 r) ∧ decide (0 ≤ r) = !allExe n L ∧ Below w.heap.size w w' := by
  rcases hl with rfl | ⟨b, off, rfl, hc⟩
  · refine (index_none ao c w).mono ?_
    rintro e w' ⟨rfl, rfl⟩
    exact ⟨_, rfl, rfl, Below.refl _ _⟩
  · exact index_some b off n c L hm w hc

set_option maxHeartbeats 400000 in
theorem contains_any (ao : Option Addr) (n c : Nat) (L : Nat → Line) (hm : n ≤ maxLen) (w : World) (hl : LinesAt w ao n L) :
    Calls Try.prog 10 #[.slice ao n c, .func (.func 11) #[] #[]] w fun e w' => e = .returned (.bool (!allExe n L)) ∧ Below w.heap.size w w' := by
  have HL := hide hl
  clear hl
  go_enter Try.func10, Try.ntmps10
  go_wp2_with fail
  refine (index_any _ _ _ _ hm _ HL.out).mono ?_
  rintro e w2 ⟨r, rfl, hr, hb2⟩
  have HR := hide hr
  clear hr
  go_wp2
  go_ret
  exact ⟨by rw [← HR.out]; rfl, hb2⟩

set_option maxHeartbeats 400000 in
/-- (Screening).ExecutesAll -/
theorem all_any (ao : Option Addr) (n c : Nat) (L : Nat → Line) (hm : n ≤ maxLen) (w : World) (hl : LinesAt w ao n L) :
    Calls Try.prog 8 #[.agg #[.slice ao n c]] w fun e w' => e = .returned (.bool (allExe n L)) ∧ Below w.heap.size w w' := by
  have HL := hide hl
  clear hl
  go_enter Try.func8, Try.ntmps8
  go_wp2_with fail
  refine (contains_any _ _ _ L hm _ (HL.out.below ((Below.refl _ _).alloc (Nat.le_refl _) _))).mono ?_
  rintro e w2 ⟨rfl, hb2⟩
  go_wp2
  go_ret
  exact ⟨by simp, ((Below.refl _ _).alloc (Nat.le_refl _) _).trans (hb2.mono (by simp))⟩

end Go.Proofs.Qxb6612891a
