import Derived.Test.Qxb6612891aPut
namespace Go.Proofs.Qxb6612891a
open Go.RowKit

set_option maxHeartbeats 1000000 in
theorem put_long (ao : Option Addr) (n c : Nat) (k : Int) (x0 x1 x2 : ByteArray) (L : Nat → Line) (hm : 65536 < n) (w : World) (hl : LinesAt w ao n L) :
    Calls Try.prog 4 #[.slice ao n c, .int .i64 k, .agg #[.string x0, .string x1, .string x2]] w fun e w' => e = .returned (.bool true) ∧ Below w.heap.size w w' := by
  have hB1 : Below w.heap.size w (w.alloc (.cells #[.string x0, .string x1, .string x2] 30)) := (Below.refl _ _).alloc (Nat.le_refl _) _
  have HL := hide (hl.below hB1)
  have HB1 := hide hB1
  clear hB1 hl
  have hd1 : decide ((65536 : Int) < (n : Int)) = true := decide_eq_true (by omega)
  go_enter Try.func4, Try.ntmps4
  go_wp2_with fail
  refine (bytes2_any _ _ _ _ _ _ _ L _ HL.out).mono ?_
  rintro e w2 ⟨⟨r, rfl⟩, hb2⟩
  have e0 : w2.cell? ⟨w.heap.size, 0, none⟩ = some (.string x0) := by rw [hb2.cell (by simp)]; simp
  have e1 : w2.cell? ⟨w.heap.size, 1, none⟩ = some (.string x1) := by rw [hb2.cell (by simp)]; simp
  have e2 : w2.cell? ⟨w.heap.size, 2, none⟩ = some (.string x2) := by rw [hb2.cell (by simp)]; simp
  cases r
  · go_wp2
    go_ret
    exact ⟨rfl, HB1.out.trans (hb2.mono (by simp))⟩
  go_wp2
  go_ret
  exact ⟨rfl, HB1.out.trans (hb2.mono (by simp))⟩

set_option maxHeartbeats 1000000 in
theorem put_big0 (ao : Option Addr) (n c : Nat) (k : Int) (x0 x1 x2 : ByteArray) (L : Nat → Line) (hm : n ≤ 65536) (h0 : 1048576 < x0.size) (w : World) (hl : LinesAt w ao n L) :
    Calls Try.prog 4 #[.slice ao n c, .int .i64 k, .agg #[.string x0, .string x1, .string x2]] w fun e w' => e = .returned (.bool true) ∧ Below w.heap.size w w' := by
  have hB1 : Below w.heap.size w (w.alloc (.cells #[.string x0, .string x1, .string x2] 30)) := (Below.refl _ _).alloc (Nat.le_refl _) _
  have HL := hide (hl.below hB1)
  have HB1 := hide hB1
  clear hB1 hl
  have hd1 : decide ((65536 : Int) < (n : Int)) = false := decide_eq_false (by omega)
  have hd4 : decide ((1048576 : Int) < (x0.size : Int)) = true := decide_eq_true (by omega)
  go_enter Try.func4, Try.ntmps4
  go_wp2_with fail
  refine (bytes2_any _ _ _ _ _ _ _ L _ HL.out).mono ?_
  rintro e w2 ⟨⟨r, rfl⟩, hb2⟩
  have e0 : w2.cell? ⟨w.heap.size, 0, none⟩ = some (.string x0) := by rw [hb2.cell (by simp)]; simp
  have e1 : w2.cell? ⟨w.heap.size, 1, none⟩ = some (.string x1) := by rw [hb2.cell (by simp)]; simp
  have e2 : w2.cell? ⟨w.heap.size, 2, none⟩ = some (.string x2) := by rw [hb2.cell (by simp)]; simp
  cases r
  · go_wp2
    go_ret
    exact ⟨rfl, HB1.out.trans (hb2.mono (by simp))⟩
  go_wp2
  go_ret
  exact ⟨rfl, HB1.out.trans (hb2.mono (by simp))⟩

set_option maxHeartbeats 1000000 in
theorem put_big1 (ao : Option Addr) (n c : Nat) (k : Int) (x0 x1 x2 : ByteArray) (L : Nat → Line) (hm : n ≤ 65536) (h0 : x0.size ≤ 1048576) (h1 : 1048576 < x1.size) (w : World) (hl : LinesAt w ao n L) :
    Calls Try.prog 4 #[.slice ao n c, .int .i64 k, .agg #[.string x0, .string x1, .string x2]] w fun e w' => e = .returned (.bool true) ∧ Below w.heap.size w w' := by
  have hB1 : Below w.heap.size w (w.alloc (.cells #[.string x0, .string x1, .string x2] 30)) := (Below.refl _ _).alloc (Nat.le_refl _) _
  have HL := hide (hl.below hB1)
  have HB1 := hide hB1
  clear hB1 hl
  have hd1 : decide ((65536 : Int) < (n : Int)) = false := decide_eq_false (by omega)
  have hd4 : decide ((1048576 : Int) < (x0.size : Int)) = false := decide_eq_false (by omega)
  have hd5 : decide ((1048576 : Int) < (x1.size : Int)) = true := decide_eq_true (by omega)
  go_enter Try.func4, Try.ntmps4
  go_wp2_with fail
  refine (bytes2_any _ _ _ _ _ _ _ L _ HL.out).mono ?_
  rintro e w2 ⟨⟨r, rfl⟩, hb2⟩
  have e0 : w2.cell? ⟨w.heap.size, 0, none⟩ = some (.string x0) := by rw [hb2.cell (by simp)]; simp
  have e1 : w2.cell? ⟨w.heap.size, 1, none⟩ = some (.string x1) := by rw [hb2.cell (by simp)]; simp
  have e2 : w2.cell? ⟨w.heap.size, 2, none⟩ = some (.string x2) := by rw [hb2.cell (by simp)]; simp
  cases r
  · go_wp2
    go_ret
    exact ⟨rfl, HB1.out.trans (hb2.mono (by simp))⟩
  go_wp2
  go_ret
  exact ⟨rfl, HB1.out.trans (hb2.mono (by simp))⟩

set_option maxHeartbeats 1000000 in
theorem put_big2 (ao : Option Addr) (n c : Nat) (k : Int) (x0 x1 x2 : ByteArray) (L : Nat → Line) (hm : n ≤ 65536) (h0 : x0.size ≤ 1048576) (h1 : x1.size ≤ 1048576) (h2 : 1048576 < x2.size) (w : World) (hl : LinesAt w ao n L) :
    Calls Try.prog 4 #[.slice ao n c, .int .i64 k, .agg #[.string x0, .string x1, .string x2]] w fun e w' => e = .returned (.bool true) ∧ Below w.heap.size w w' := by
  have hB1 : Below w.heap.size w (w.alloc (.cells #[.string x0, .string x1, .string x2] 30)) := (Below.refl _ _).alloc (Nat.le_refl _) _
  have HL := hide (hl.below hB1)
  have HB1 := hide hB1
  clear hB1 hl
  have hd1 : decide ((65536 : Int) < (n : Int)) = false := decide_eq_false (by omega)
  have hd4 : decide ((1048576 : Int) < (x0.size : Int)) = false := decide_eq_false (by omega)
  have hd5 : decide ((1048576 : Int) < (x1.size : Int)) = false := decide_eq_false (by omega)
  have hd6 : decide ((1048576 : Int) < (x2.size : Int)) = true := decide_eq_true (by omega)
  go_enter Try.func4, Try.ntmps4
  go_wp2_with fail
  refine (bytes2_any _ _ _ _ _ _ _ L _ HL.out).mono ?_
  rintro e w2 ⟨⟨r, rfl⟩, hb2⟩
  have e0 : w2.cell? ⟨w.heap.size, 0, none⟩ = some (.string x0) := by rw [hb2.cell (by simp)]; simp
  have e1 : w2.cell? ⟨w.heap.size, 1, none⟩ = some (.string x1) := by rw [hb2.cell (by simp)]; simp
  have e2 : w2.cell? ⟨w.heap.size, 2, none⟩ = some (.string x2) := by rw [hb2.cell (by simp)]; simp
  cases r
  · go_wp2
    go_ret
    exact ⟨rfl, HB1.out.trans (hb2.mono (by simp))⟩
  go_wp2
  go_ret
  exact ⟨rfl, HB1.out.trans (hb2.mono (by simp))⟩

set_option maxHeartbeats 1000000 in
theorem put_low (ao : Option Addr) (n c : Nat) (k : Int) (x0 x1 x2 : ByteArray) (L : Nat → Line) (hm : n ≤ 65536) (h0 : x0.size ≤ 1048576) (h1 : x1.size ≤ 1048576) (h2 : x2.size ≤ 1048576) (hk : k < 0) (w : World) (hl : LinesAt w ao n L) :
    Calls Try.prog 4 #[.slice ao n c, .int .i64 k, .agg #[.string x0, .string x1, .string x2]] w fun e w' => e = .returned (.bool true) ∧ Below w.heap.size w w' := by
  have hB1 : Below w.heap.size w (w.alloc (.cells #[.string x0, .string x1, .string x2] 30)) := (Below.refl _ _).alloc (Nat.le_refl _) _
  have HL := hide (hl.below hB1)
  have HB1 := hide hB1
  clear hB1 hl
  have hd1 : decide ((65536 : Int) < (n : Int)) = false := decide_eq_false (by omega)
  have hd4 : decide ((1048576 : Int) < (x0.size : Int)) = false := decide_eq_false (by omega)
  have hd5 : decide ((1048576 : Int) < (x1.size : Int)) = false := decide_eq_false (by omega)
  have hd6 : decide ((1048576 : Int) < (x2.size : Int)) = false := decide_eq_false (by omega)
  have hd2 : decide (k < 0) = true := decide_eq_true (by omega)
  go_enter Try.func4, Try.ntmps4
  go_wp2_with fail
  refine (bytes2_any _ _ _ _ _ _ _ L _ HL.out).mono ?_
  rintro e w2 ⟨⟨r, rfl⟩, hb2⟩
  have e0 : w2.cell? ⟨w.heap.size, 0, none⟩ = some (.string x0) := by rw [hb2.cell (by simp)]; simp
  have e1 : w2.cell? ⟨w.heap.size, 1, none⟩ = some (.string x1) := by rw [hb2.cell (by simp)]; simp
  have e2 : w2.cell? ⟨w.heap.size, 2, none⟩ = some (.string x2) := by rw [hb2.cell (by simp)]; simp
  cases r
  · go_wp2
    go_ret
    exact ⟨rfl, HB1.out.trans (hb2.mono (by simp))⟩
  have HL2 := hide (HL.out.below hb2)
  go_wp2_with fail
  refine (big_any _ _ _ _ L (by unfold maxLen; omega) _ HL2.out).mono ?_
  rintro e w2' ⟨⟨r, rfl⟩, rfl⟩
  cases r
  case true =>
    go_wp2
    go_ret
    exact ⟨rfl, HB1.out.trans (hb2.mono (by simp))⟩
  go_wp2
  go_ret
  exact ⟨rfl, HB1.out.trans (hb2.mono (by simp))⟩

set_option maxHeartbeats 1000000 in
theorem put_high (ao : Option Addr) (n c : Nat) (k : Int) (x0 x1 x2 : ByteArray) (L : Nat → Line) (hm : n ≤ 65536) (h0 : x0.size ≤ 1048576) (h1 : x1.size ≤ 1048576) (h2 : x2.size ≤ 1048576) (hk : (n : Int) < k) (w : World) (hl : LinesAt w ao n L) :
    Calls Try.prog 4 #[.slice ao n c, .int .i64 k, .agg #[.string x0, .string x1, .string x2]] w fun e w' => e = .returned (.bool true) ∧ Below w.heap.size w w' := by
  have hB1 : Below w.heap.size w (w.alloc (.cells #[.string x0, .string x1, .string x2] 30)) := (Below.refl _ _).alloc (Nat.le_refl _) _
  have HL := hide (hl.below hB1)
  have HB1 := hide hB1
  clear hB1 hl
  have hd1 : decide ((65536 : Int) < (n : Int)) = false := decide_eq_false (by omega)
  have hd4 : decide ((1048576 : Int) < (x0.size : Int)) = false := decide_eq_false (by omega)
  have hd5 : decide ((1048576 : Int) < (x1.size : Int)) = false := decide_eq_false (by omega)
  have hd6 : decide ((1048576 : Int) < (x2.size : Int)) = false := decide_eq_false (by omega)
  have hd2 : decide (k < 0) = false := decide_eq_false (by omega)
  have hd3 : decide ((n : Int) < k) = true := decide_eq_true (by omega)
  go_enter Try.func4, Try.ntmps4
  go_wp2_with fail
  refine (bytes2_any _ _ _ _ _ _ _ L _ HL.out).mono ?_
  rintro e w2 ⟨⟨r, rfl⟩, hb2⟩
  have e0 : w2.cell? ⟨w.heap.size, 0, none⟩ = some (.string x0) := by rw [hb2.cell (by simp)]; simp
  have e1 : w2.cell? ⟨w.heap.size, 1, none⟩ = some (.string x1) := by rw [hb2.cell (by simp)]; simp
  have e2 : w2.cell? ⟨w.heap.size, 2, none⟩ = some (.string x2) := by rw [hb2.cell (by simp)]; simp
  cases r
  · go_wp2
    go_ret
    exact ⟨rfl, HB1.out.trans (hb2.mono (by simp))⟩
  have HL2 := hide (HL.out.below hb2)
  go_wp2_with fail
  refine (big_any _ _ _ _ L (by unfold maxLen; omega) _ HL2.out).mono ?_
  rintro e w2' ⟨⟨r, rfl⟩, rfl⟩
  cases r
  case true =>
    go_wp2
    go_ret
    exact ⟨rfl, HB1.out.trans (hb2.mono (by simp))⟩
  go_wp2
  go_ret
  exact ⟨rfl, HB1.out.trans (hb2.mono (by simp))⟩

end Go.Proofs.Qxb6612891a
