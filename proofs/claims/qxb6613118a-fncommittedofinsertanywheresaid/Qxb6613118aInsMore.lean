import Derived.Test.Qxb6613118aIns
namespace Go.Proofs.Qxb6613118a
open Go.RowKit

set_option maxRecDepth 100000 in
set_option maxHeartbeats 2000000 in
theorem ins_low (b off n c : Nat) (k : Int) (xs xc : Int) (xp : ByteArray) (xa : Option Addr) (xn xm : Nat) (R : Nat → Com) (hm : n ≤ maxLen) (hk0 : k < 0) (w : World) (hc : CellsAt w b off n R) (hk : AllKeys w n R) (hx : KeysAt w xa xn) (hxm : xn ≤ maxLen) :
    Calls Try.prog 4 #[.slice (some ⟨b, off, none⟩) n c, .int .i64 k, .agg #[.int .u64 xs, .int .u64 xc, .string xp, .slice xa xn xm]] w fun e w' => e = .returned (.bool true) ∧ Below w.heap.size w w' := by
  have hB0 : Below w.heap.size w (w.alloc (.cells #[.int .u64 xs, .int .u64 xc, .string xp, .slice xa xn xm] 34)) := (Below.refl _ _).alloc (Nat.le_refl _) _
  have HC0 := hide (hc.below hB0 hc.1)
  have HK0 := hide (hk.below hB0)
  have HX0 := hide (hx.below hB0)
  have HO0 : Hid (OneAt (w.alloc (.cells #[.int .u64 xs, .int .u64 xc, .string xp, .slice xa xn xm] 34)) w.heap.size ⟨xs, xc, xp, xa, xn, xm⟩) := ⟨by simp, by simp, by simp, by simp, by simp⟩
  have HB0 := hide hB0
  have HM := hide hm
  have hbs := hc.1
  have HXM := hide hxm
  clear hc hk hm hx hB0 hxm
  have hd2 : decide (k < 0) = true := decide_eq_true hk0
  go_enter Try.func4, Try.ntmps4
  go_wp2_with fail
  refine (bytes2_some _ _ _ _ _ _ _ _ _ _ _ R _ HC0.out HK0.out HX0.out HXM.out).mono ?_
  rintro e w1 ⟨⟨r, rfl, hsm⟩, hb1⟩
  have HB1 := hide (HB0.out.trans (hb1.mono (by simp)))
  have HC1 := hide (HC0.out.below hb1 (by simp; omega))
  have HK1 := hide (HK0.out.below hb1)
  have HX1 := hide (HX0.out.below hb1)
  have HO1 := hide (HO0.out.below hb1 (by simp))
  clear hb1 HB0 HC0 HK0 HX0 HO0
  cases r
  · clear hsm
    go_wp2
    go_ret
    exact ⟨rfl, HB1.out⟩
  obtain ⟨hn20, hf, hx20⟩ := hsm rfl
  clear hsm hf
  go_wp2_with fail
  refine (size_some _ _ _ _ _ R HM.out _ HC1.out HK1.out).mono ?_
  rintro e w1' ⟨⟨r, rfl⟩, rfl⟩
  by_cases hr : r < 0
  · go_wp2
    go_ret
    exact ⟨rfl, HB1.out⟩
  have hd1 : decide (r < 0) = false := decide_eq_false hr
  clear hr
  obtain ⟨hob, o0, o1, o2, o3⟩ := HO1.out
  simp only at o0 o1 o2 o3
  have hB2 : Below w1'.heap.size w1' (w1'.alloc (.cells #[.int .u64 xs, .int .u64 xc, .string xp, .slice xa xn xm] 34)) := (Below.refl _ _).alloc (Nat.le_refl _) _
  have HX2 := hide (HX1.out.below hB2)
  have HO2 := hide (HO1.out.below hB2 hob)
  have HB2 := hide (HB1.out.trans (hB2.mono HB1.out.size))
  have HP2 : Hid (OneAt (w1'.alloc (.cells #[.int .u64 xs, .int .u64 xc, .string xp, .slice xa xn xm] 34)) w1'.heap.size ⟨xs, xc, xp, xa, xn, xm⟩) := ⟨by simp, by simp, by simp, by simp, by simp⟩
  clear hB2 HX1 HO1 HB1
  go_wp2_with fail
  refine (size_some _ _ _ _ _ (fun _ => ⟨xs, xc, xp, xa, xn, xm⟩) (by unfold maxLen; omega) _ HP2.out.cells (keys_one HX2.out HXM.out)).mono ?_
  rintro e w2 ⟨⟨r2, rfl⟩, hw2⟩
  have HW2 := hide hw2
  clear hw2
  rw [← HW2.out] at HX2 HO2 HB2
  clear HW2 HP2 o0 o1 o2 o3
  by_cases hr2 : r2 < 0
  · go_wp2
    go_ret
    exact ⟨rfl, HB2.out⟩
  have hd5 : decide (r2 < 0) = false := decide_eq_false hr2
  clear hr2
  go_wp2
  go_ret
  exact ⟨rfl, HB2.out⟩

set_option maxRecDepth 100000 in
set_option maxHeartbeats 2000000 in
theorem ins_high (b off n c : Nat) (k : Int) (xs xc : Int) (xp : ByteArray) (xa : Option Addr) (xn xm : Nat) (R : Nat → Com) (hm : n ≤ maxLen) (hk1 : (n : Int) < k) (w : World) (hc : CellsAt w b off n R) (hk : AllKeys w n R) (hx : KeysAt w xa xn) (hxm : xn ≤ maxLen) :
    Calls Try.prog 4 #[.slice (some ⟨b, off, none⟩) n c, .int .i64 k, .agg #[.int .u64 xs, .int .u64 xc, .string xp, .slice xa xn xm]] w fun e w' => e = .returned (.bool true) ∧ Below w.heap.size w w' := by
  have hB0 : Below w.heap.size w (w.alloc (.cells #[.int .u64 xs, .int .u64 xc, .string xp, .slice xa xn xm] 34)) := (Below.refl _ _).alloc (Nat.le_refl _) _
  have HC0 := hide (hc.below hB0 hc.1)
  have HK0 := hide (hk.below hB0)
  have HX0 := hide (hx.below hB0)
  have HO0 : Hid (OneAt (w.alloc (.cells #[.int .u64 xs, .int .u64 xc, .string xp, .slice xa xn xm] 34)) w.heap.size ⟨xs, xc, xp, xa, xn, xm⟩) := ⟨by simp, by simp, by simp, by simp, by simp⟩
  have HB0 := hide hB0
  have HM := hide hm
  have hbs := hc.1
  have HXM := hide hxm
  clear hc hk hm hx hB0 hxm
  have hd2 : decide (k < 0) = false := decide_eq_false (by omega)
  have hd3 : decide ((n : Int) < k) = true := decide_eq_true hk1
  go_enter Try.func4, Try.ntmps4
  go_wp2_with fail
  refine (bytes2_some _ _ _ _ _ _ _ _ _ _ _ R _ HC0.out HK0.out HX0.out HXM.out).mono ?_
  rintro e w1 ⟨⟨r, rfl, hsm⟩, hb1⟩
  have HB1 := hide (HB0.out.trans (hb1.mono (by simp)))
  have HC1 := hide (HC0.out.below hb1 (by simp; omega))
  have HK1 := hide (HK0.out.below hb1)
  have HX1 := hide (HX0.out.below hb1)
  have HO1 := hide (HO0.out.below hb1 (by simp))
  clear hb1 HB0 HC0 HK0 HX0 HO0
  cases r
  · clear hsm
    go_wp2
    go_ret
    exact ⟨rfl, HB1.out⟩
  obtain ⟨hn20, hf, hx20⟩ := hsm rfl
  clear hsm hf
  go_wp2_with fail
  refine (size_some _ _ _ _ _ R HM.out _ HC1.out HK1.out).mono ?_
  rintro e w1' ⟨⟨r, rfl⟩, rfl⟩
  by_cases hr : r < 0
  · go_wp2
    go_ret
    exact ⟨rfl, HB1.out⟩
  have hd1 : decide (r < 0) = false := decide_eq_false hr
  clear hr
  obtain ⟨hob, o0, o1, o2, o3⟩ := HO1.out
  simp only at o0 o1 o2 o3
  have hB2 : Below w1'.heap.size w1' (w1'.alloc (.cells #[.int .u64 xs, .int .u64 xc, .string xp, .slice xa xn xm] 34)) := (Below.refl _ _).alloc (Nat.le_refl _) _
  have HX2 := hide (HX1.out.below hB2)
  have HO2 := hide (HO1.out.below hB2 hob)
  have HB2 := hide (HB1.out.trans (hB2.mono HB1.out.size))
  have HP2 : Hid (OneAt (w1'.alloc (.cells #[.int .u64 xs, .int .u64 xc, .string xp, .slice xa xn xm] 34)) w1'.heap.size ⟨xs, xc, xp, xa, xn, xm⟩) := ⟨by simp, by simp, by simp, by simp, by simp⟩
  clear hB2 HX1 HO1 HB1
  go_wp2_with fail
  refine (size_some _ _ _ _ _ (fun _ => ⟨xs, xc, xp, xa, xn, xm⟩) (by unfold maxLen; omega) _ HP2.out.cells (keys_one HX2.out HXM.out)).mono ?_
  rintro e w2 ⟨⟨r2, rfl⟩, hw2⟩
  have HW2 := hide hw2
  clear hw2
  rw [← HW2.out] at HX2 HO2 HB2
  clear HW2 HP2 o0 o1 o2 o3
  by_cases hr2 : r2 < 0
  · go_wp2
    go_ret
    exact ⟨rfl, HB2.out⟩
  have hd5 : decide (r2 < 0) = false := decide_eq_false hr2
  clear hr2
  go_wp2
  go_ret
  exact ⟨rfl, HB2.out⟩

set_option maxRecDepth 100000 in
set_option maxHeartbeats 2000000 in
theorem ins_low0 (ao : Option Addr) (c : Nat) (k : Int) (xs xc : Int) (xp : ByteArray) (xa : Option Addr) (xn xm : Nat) (hk0 : k < 0) (w : World) (hx : KeysAt w xa xn) (hxm : xn ≤ maxLen) :
    Calls Try.prog 4 #[.slice ao 0 c, .int .i64 k, .agg #[.int .u64 xs, .int .u64 xc, .string xp, .slice xa xn xm]] w fun e w' => e = .returned (.bool true) ∧ Below w.heap.size w w' := by
  have hB0 : Below w.heap.size w (w.alloc (.cells #[.int .u64 xs, .int .u64 xc, .string xp, .slice xa xn xm] 34)) := (Below.refl _ _).alloc (Nat.le_refl _) _
  have HX0 := hide (hx.below hB0)
  have HO0 : Hid (OneAt (w.alloc (.cells #[.int .u64 xs, .int .u64 xc, .string xp, .slice xa xn xm] 34)) w.heap.size ⟨xs, xc, xp, xa, xn, xm⟩) := ⟨by simp, by simp, by simp, by simp, by simp⟩
  have HB0 := hide hB0
  have HXM := hide hxm
  clear hx hB0 hxm
  have hd2 : decide (k < 0) = true := decide_eq_true hk0
  go_enter Try.func4, Try.ntmps4
  go_wp2_with fail
  refine (bytes2_none _ _ _ _ _ _ _ _ _ (fun _ => ⟨0, 0, ⟨#[]⟩, none, 0, 0⟩) _ HX0.out HXM.out).mono ?_
  rintro e w1 ⟨⟨r, rfl, hsm⟩, hb1⟩
  have HB1 := hide (HB0.out.trans (hb1.mono (by simp)))
  have HX1 := hide (HX0.out.below hb1)
  have HO1 := hide (HO0.out.below hb1 (by simp))
  clear hb1 HB0 HX0 HO0
  cases r
  · clear hsm
    go_wp2
    go_ret
    exact ⟨rfl, HB1.out⟩
  obtain ⟨hn20, hf, hx20⟩ := hsm rfl
  clear hsm hf
  go_wp2_with fail
  refine (size_none _ _ _ _).mono ?_
  rintro e w1' ⟨⟨r, rfl⟩, rfl⟩
  by_cases hr : r < 0
  · go_wp2
    go_ret
    exact ⟨rfl, HB1.out⟩
  have hd1 : decide (r < 0) = false := decide_eq_false hr
  clear hr
  obtain ⟨hob, o0, o1, o2, o3⟩ := HO1.out
  simp only at o0 o1 o2 o3
  have hB2 : Below w1'.heap.size w1' (w1'.alloc (.cells #[.int .u64 xs, .int .u64 xc, .string xp, .slice xa xn xm] 34)) := (Below.refl _ _).alloc (Nat.le_refl _) _
  have HX2 := hide (HX1.out.below hB2)
  have HO2 := hide (HO1.out.below hB2 hob)
  have HB2 := hide (HB1.out.trans (hB2.mono HB1.out.size))
  have HP2 : Hid (OneAt (w1'.alloc (.cells #[.int .u64 xs, .int .u64 xc, .string xp, .slice xa xn xm] 34)) w1'.heap.size ⟨xs, xc, xp, xa, xn, xm⟩) := ⟨by simp, by simp, by simp, by simp, by simp⟩
  clear hB2 HX1 HO1 HB1
  go_wp2_with fail
  refine (size_some _ _ _ _ _ (fun _ => ⟨xs, xc, xp, xa, xn, xm⟩) (by unfold maxLen; omega) _ HP2.out.cells (keys_one HX2.out HXM.out)).mono ?_
  rintro e w2 ⟨⟨r2, rfl⟩, hw2⟩
  have HW2 := hide hw2
  clear hw2
  rw [← HW2.out] at HX2 HO2 HB2
  clear HW2 HP2 o0 o1 o2 o3
  by_cases hr2 : r2 < 0
  · go_wp2
    go_ret
    exact ⟨rfl, HB2.out⟩
  have hd5 : decide (r2 < 0) = false := decide_eq_false hr2
  clear hr2
  go_wp2
  go_ret
  exact ⟨rfl, HB2.out⟩

set_option maxRecDepth 100000 in
set_option maxHeartbeats 2000000 in
theorem ins_high0 (ao : Option Addr) (c : Nat) (k : Int) (xs xc : Int) (xp : ByteArray) (xa : Option Addr) (xn xm : Nat) (hk1 : 0 < k) (w : World) (hx : KeysAt w xa xn) (hxm : xn ≤ maxLen) :
    Calls Try.prog 4 #[.slice ao 0 c, .int .i64 k, .agg #[.int .u64 xs, .int .u64 xc, .string xp, .slice xa xn xm]] w fun e w' => e = .returned (.bool true) ∧ Below w.heap.size w w' := by
  have hB0 : Below w.heap.size w (w.alloc (.cells #[.int .u64 xs, .int .u64 xc, .string xp, .slice xa xn xm] 34)) := (Below.refl _ _).alloc (Nat.le_refl _) _
  have HX0 := hide (hx.below hB0)
  have HO0 : Hid (OneAt (w.alloc (.cells #[.int .u64 xs, .int .u64 xc, .string xp, .slice xa xn xm] 34)) w.heap.size ⟨xs, xc, xp, xa, xn, xm⟩) := ⟨by simp, by simp, by simp, by simp, by simp⟩
  have HB0 := hide hB0
  have HXM := hide hxm
  clear hx hB0 hxm
  have hd2 : decide (k < 0) = false := decide_eq_false (by omega)
  have hd3 : decide ((0 : Int) < k) = true := decide_eq_true hk1
  go_enter Try.func4, Try.ntmps4
  go_wp2_with fail
  refine (bytes2_none _ _ _ _ _ _ _ _ _ (fun _ => ⟨0, 0, ⟨#[]⟩, none, 0, 0⟩) _ HX0.out HXM.out).mono ?_
  rintro e w1 ⟨⟨r, rfl, hsm⟩, hb1⟩
  have HB1 := hide (HB0.out.trans (hb1.mono (by simp)))
  have HX1 := hide (HX0.out.below hb1)
  have HO1 := hide (HO0.out.below hb1 (by simp))
  clear hb1 HB0 HX0 HO0
  cases r
  · clear hsm
    go_wp2
    go_ret
    exact ⟨rfl, HB1.out⟩
  obtain ⟨hn20, hf, hx20⟩ := hsm rfl
  clear hsm hf
  go_wp2_with fail
  refine (size_none _ _ _ _).mono ?_
  rintro e w1' ⟨⟨r, rfl⟩, rfl⟩
  by_cases hr : r < 0
  · go_wp2
    go_ret
    exact ⟨rfl, HB1.out⟩
  have hd1 : decide (r < 0) = false := decide_eq_false hr
  clear hr
  obtain ⟨hob, o0, o1, o2, o3⟩ := HO1.out
  simp only at o0 o1 o2 o3
  have hB2 : Below w1'.heap.size w1' (w1'.alloc (.cells #[.int .u64 xs, .int .u64 xc, .string xp, .slice xa xn xm] 34)) := (Below.refl _ _).alloc (Nat.le_refl _) _
  have HX2 := hide (HX1.out.below hB2)
  have HO2 := hide (HO1.out.below hB2 hob)
  have HB2 := hide (HB1.out.trans (hB2.mono HB1.out.size))
  have HP2 : Hid (OneAt (w1'.alloc (.cells #[.int .u64 xs, .int .u64 xc, .string xp, .slice xa xn xm] 34)) w1'.heap.size ⟨xs, xc, xp, xa, xn, xm⟩) := ⟨by simp, by simp, by simp, by simp, by simp⟩
  clear hB2 HX1 HO1 HB1
  go_wp2_with fail
  refine (size_some _ _ _ _ _ (fun _ => ⟨xs, xc, xp, xa, xn, xm⟩) (by unfold maxLen; omega) _ HP2.out.cells (keys_one HX2.out HXM.out)).mono ?_
  rintro e w2 ⟨⟨r2, rfl⟩, hw2⟩
  have HW2 := hide hw2
  clear hw2
  rw [← HW2.out] at HX2 HO2 HB2
  clear HW2 HP2 o0 o1 o2 o3
  by_cases hr2 : r2 < 0
  · go_wp2
    go_ret
    exact ⟨rfl, HB2.out⟩
  have hd5 : decide (r2 < 0) = false := decide_eq_false hr2
  clear hr2
  go_wp2
  go_ret
  exact ⟨rfl, HB2.out⟩

set_option maxRecDepth 100000 in
set_option maxHeartbeats 2000000 in
theorem ins_none (ao : Option Addr) (c : Nat)  (xs xc : Int) (xp : ByteArray) (xa : Option Addr) (xn xm : Nat) (hn0 : ao = none → c = 0) (w : World) (hx : KeysAt w xa xn) (hxm : xn ≤ maxLen) :
    Calls Try.prog 4 #[.slice ao 0 c, .int .i64 0, .agg #[.int .u64 xs, .int .u64 xc, .string xp, .slice xa xn xm]] w fun e w' => e = .returned (.bool true) ∧ Below w.heap.size w w' := by
  have hB0 : Below w.heap.size w (w.alloc (.cells #[.int .u64 xs, .int .u64 xc, .string xp, .slice xa xn xm] 34)) := (Below.refl _ _).alloc (Nat.le_refl _) _
  have HX0 := hide (hx.below hB0)
  have HO0 : Hid (OneAt (w.alloc (.cells #[.int .u64 xs, .int .u64 xc, .string xp, .slice xa xn xm] 34)) w.heap.size ⟨xs, xc, xp, xa, xn, xm⟩) := ⟨by simp, by simp, by simp, by simp, by simp⟩
  have HB0 := hide hB0
  have HXM := hide hxm
  clear hx hB0 hxm
  have HN := hide hn0
  clear hn0
  have hnil := fun w => Lib.run_eql_slice_nil (P := Try.prog) w 27
  have hneq := neq31
  obtain ⟨i38, hi38, hz38, hs38, hb38⟩ := info_parts Try.info38
  go_enter Try.func4, Try.ntmps4
  go_wp2_with fail
  refine (bytes2_none _ _ _ _ _ _ _ _ _ (fun _ => ⟨0, 0, ⟨#[]⟩, none, 0, 0⟩) _ HX0.out HXM.out).mono ?_
  rintro e w1 ⟨⟨r, rfl, hsm⟩, hb1⟩
  have HB1 := hide (HB0.out.trans (hb1.mono (by simp)))
  have HX1 := hide (HX0.out.below hb1)
  have HO1 := hide (HO0.out.below hb1 (by simp))
  clear hb1 HB0 HX0 HO0
  cases r
  · clear hsm
    go_wp2
    go_ret
    exact ⟨rfl, HB1.out⟩
  obtain ⟨hn20, hf, hx20⟩ := hsm rfl
  clear hsm hf
  go_wp2_with fail
  refine (size_none _ _ _ _).mono ?_
  rintro e w1' ⟨⟨r, rfl⟩, rfl⟩
  by_cases hr : r < 0
  · go_wp2
    go_ret
    exact ⟨rfl, HB1.out⟩
  have hd1 : decide (r < 0) = false := decide_eq_false hr
  clear hr
  obtain ⟨hob, o0, o1, o2, o3⟩ := HO1.out
  simp only at o0 o1 o2 o3
  have hB2 : Below w1'.heap.size w1' (w1'.alloc (.cells #[.int .u64 xs, .int .u64 xc, .string xp, .slice xa xn xm] 34)) := (Below.refl _ _).alloc (Nat.le_refl _) _
  have HX2 := hide (HX1.out.below hB2)
  have HO2 := hide (HO1.out.below hB2 hob)
  have HB2 := hide (HB1.out.trans (hB2.mono HB1.out.size))
  have HP2 : Hid (OneAt (w1'.alloc (.cells #[.int .u64 xs, .int .u64 xc, .string xp, .slice xa xn xm] 34)) w1'.heap.size ⟨xs, xc, xp, xa, xn, xm⟩) := ⟨by simp, by simp, by simp, by simp, by simp⟩
  clear hB2 HX1 HO1 HB1
  go_wp2_with fail
  refine (size_some _ _ _ _ _ (fun _ => ⟨xs, xc, xp, xa, xn, xm⟩) (by unfold maxLen; omega) _ HP2.out.cells (keys_one HX2.out HXM.out)).mono ?_
  rintro e w2 ⟨⟨r2, rfl⟩, hw2⟩
  have HW2 := hide hw2
  clear hw2
  rw [← HW2.out] at HX2 HO2 HB2
  clear HW2 HP2 o0 o1 o2 o3
  by_cases hr2 : r2 < 0
  · go_wp2
    go_ret
    exact ⟨rfl, HB2.out⟩
  have hd5 : decide (r2 < 0) = false := decide_eq_false hr2
  clear hr2
  go_wp2_with fail
  refine (toReqs_zero _ _ HN.out _).mono ?_
  rintro e w3 ⟨ao3, rfl, hb3⟩
  have hob2 : w.heap.size < w2.heap.size := HO2.out.1
  have HX3 := hide (HX2.out.below hb3)
  have HO3 := hide (HO2.out.below hb3 hob2)
  have HB3 := hide (HB2.out.trans (hb3.mono HB2.out.size))
  have hs3 : w2.heap.size ≤ w3.heap.size := hb3.size
  clear hb3 HX2 HO2 HB2 hob
  go_wp2_with (first | (at_make; refine wpList_make_full _ rfl _ _ _ rfl w3.heap.size _ _ _ _ Try.underlying25 hi38 hz38 hs38 _ _ _ _ 1 rfl rfl (by omega) (by omega) (by rw [hb38]; omega) (by unfold maxLen; omega) (Nat.le_refl _) ?_))
  intro w4 hown hgr
  have hb4 : Below w3.heap.size w3 w4 := (Below.refl _ _).grown hgr (Nat.le_refl _) (by simp)
  have HL4 : Hid (LaidR w4 w3.heap.size 1 0 (fun _ => ⟨xs, xc, xp, xa, xn, xm⟩)) := ⟨_, hown, fun j hj => absurd hj (Nat.not_lt_zero _)⟩
  clear hown hgr hi38 hz38 hs38 hb38 i38
  have hs4 : w3.heap.size < w4.heap.size := HL4.out.lt
  obtain ⟨hob, o0, o1, o2, o3⟩ := HO3.out.below hb4 (by omega)
  simp only at o0 o1 o2 o3
  go_wp2
  refine wp_loop_rounds 1 ?_
  rw [rounds_succ]
  go_wp2_with fail
  refine (toReq_any _ _ _ _ _ _ hx20 _ (HX3.out.below hb4)).mono ?_
  rintro e w5 ⟨⟨ya, yq, ym, rfl⟩, hb5⟩
  have HL5 := hide (HL4.out.below hb5)
  obtain ⟨⟨v0, r0⟩, ⟨v1, r1⟩, ⟨v2, r2'⟩, ⟨v3, r3⟩, f0, f1, f2, f3⟩ := HL5.out.slots 0 (by omega)
  have HS := hide (HL5.out.step (by omega) xp ya yq ym)
  simp only [Nat.zero_mul, Nat.zero_add] at r0 r1 r2' r3 f0 f1 f2 f3 HS
  have hb35 := hb4.trans (hb5.mono (by omega))
  have HB35 := hide ((((hb35.setCell (p := ⟨w3.heap.size, 0, none⟩) (Nat.le_refl _) (.int .u64 xs)).setCell (p := ⟨w3.heap.size, 1, none⟩) (Nat.le_refl _) (.int .u64 xc)).setCell (p := ⟨w3.heap.size, 2, none⟩) (Nat.le_refl _) (.string xp)).setCell (p := ⟨w3.heap.size, 3, none⟩) (Nat.le_refl _) (.slice ya yq ym))
  clear hb4 hb5 HL4 HL5 o0 o1 o2 o3 hob hb35
  go_wp2
  refine wp_loop_rounds 1 ?_
  rw [rounds_succ]
  go_wp2_with fail
  refine (named_nil _ _ _).mono ?_
  rintro e w6 ⟨rfl, hb6⟩
  have HG6 := hide (HS.out.cells.below hb6 HS.out.lt)
  have hs6 : w3.heap.size < w6.heap.size := Nat.lt_of_lt_of_le HS.out.lt hb6.size
  have HB36 := hide (HB35.out.trans (hb6.mono (Nat.le_of_lt HS.out.lt)))
  clear HS hb6 HB35 r0 r1 r2' r3 f0 f1 f2 f3
  go_wp2_with fail
  refine (named_some _ _ _ _ (fun _ => ⟨xs, xc, xp, xa, xn, xm⟩) (by omega) (by omega) _ HG6.out).mono ?_
  rintro e w8 ⟨rfl, hn8, hb8⟩
  obtain ⟨hs8, hn8'⟩ := hn8
  obtain ⟨n0, n1⟩ := hn8' 0 (by omega)
  have hb38 := HB36.out.trans (hb8.mono (by omega))
  obtain ⟨hob, o0, o1, o2, o3⟩ := HO3.out.below hb38 (by omega)
  have HB8 := hide (HB3.out.trans (hb38.mono HB3.out.size))
  simp only [Nat.zero_mul, Nat.zero_add] at o0 o1 o2 o3 n0 n1
  clear hb8 hb38 HB36 HG6 hn8' HB3 HO3 HX3
  go_wp2
  go_quiet (fail)
  go_wp2
  refine wp_loop_rounds 1 ?_
  rw [rounds_succ]
  go_wp2
  go_ret
  exact ⟨rfl, below_drewN HB8.out _⟩

/-- the law: whatever the commits, the place and the one put in, it answers true, and nothing that was there has turned -/
theorem ins_any (ao : Option Addr) (n c : Nat) (k : Int) (xs xc : Int) (xp : ByteArray) (xa : Option Addr) (xn xm : Nat) (n0 : ao = none → c = 0) (R : Nat → Com) (hm : n ≤ maxLen) (w : World)
    (hl : n = 0 ∨ ∃ b off, ao = some ⟨b, off, none⟩ ∧ CellsAt w b off n R ∧ AllKeys w n R) (hx : KeysAt w xa xn) (hxm : xn ≤ maxLen) :
    Calls Try.prog 4 #[.slice ao n c, .int .i64 k, .agg #[.int .u64 xs, .int .u64 xc, .string xp, .slice xa xn xm]] w fun e w' => e = .returned (.bool true) ∧ Below w.heap.size w w' := by
  have zero : n = 0 → Calls Try.prog 4 #[.slice ao 0 c, .int .i64 k, .agg #[.int .u64 xs, .int .u64 xc, .string xp, .slice xa xn xm]] w fun e w' => e = .returned (.bool true) ∧ Below w.heap.size w w' := by
    intro _
    rcases (show k = 0 ∨ k < 0 ∨ 0 < k by omega) with rfl | hk0 | hk0
    · exact ins_none ao c xs xc xp xa xn xm n0 w hx hxm
    · exact ins_low0 ao c k xs xc xp xa xn xm hk0 w hx hxm
    · exact ins_high0 ao c k xs xc xp xa xn xm hk0 w hx hxm
  by_cases hz : n = 0
  · subst hz
    exact zero rfl
  rcases hl with hz' | ⟨b, off, rfl, hc, hk⟩
  · exact absurd hz' hz
  by_cases hk0 : k < 0
  · exact ins_low b off n c k xs xc xp xa xn xm R hm hk0 w hc hk hx hxm
  by_cases hk1 : (n : Int) < k
  · exact ins_high b off n c k xs xc xp xa xn xm R hm hk1 w hc hk hx hxm
  obtain ⟨p, rfl⟩ := Int.eq_ofNat_of_zero_le (show 0 ≤ k by omega)
  exact ins_some b off n c p xs xc xp xa xn xm R (by omega) (by omega) hm w hc hk hx hxm

end Go.Proofs.Qxb6613118a
