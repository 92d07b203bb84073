import Derived.Test.Qxb6613118aCut
import Derived.Test.Qxb6613118aBytes
namespace Go.Proofs.Qxb6613118a
open Go.RowKit

/-- the four cells of one commit at ⟨b, 0⟩ -/
def OneAt (w : World) (b : Nat) (x : Com) : Prop :=
  b < w.heap.size ∧ w.cell? ⟨b, 0, none⟩ = some (.int .u64 x.s) ∧ w.cell? ⟨b, 1, none⟩ = some (.int .u64 x.c) ∧ w.cell? ⟨b, 2, none⟩ = some (.string x.p) ∧ w.cell? ⟨b, 3, none⟩ = some (.slice x.a x.n x.m)

theorem OneAt.below {w w' : World} {b B : Nat} {x : Com} (h : OneAt w b x) (hb : Below B w w') (hB : b < B) : OneAt w' b x := by
  obtain ⟨h0, g0, g1, g2, g3⟩ := h
  exact ⟨Nat.lt_of_lt_of_le h0 hb.size, by rw [hb.cell (by exact hB)]; exact g0, by rw [hb.cell (by exact hB)]; exact g1, by rw [hb.cell (by exact hB)]; exact g2, by rw [hb.cell (by exact hB)]; exact g3⟩

theorem OneAt.cells {w : World} {b : Nat} {x : Com} (h : OneAt w b x) : CellsAt w b 0 1 (fun _ => x) := by
  obtain ⟨h0, g0, g1, g2, g3⟩ := h
  refine ⟨h0, fun j hj => ?_⟩
  obtain rfl : j = 0 := by omega
  exact ⟨g0, g1, g2, g3⟩

/-- the list with x put in at place p -/
def putIn (p : Nat) (x : Com) (R : Nat → Com) : Nat → Com := fun j => if j < p then R j else if j = p then x else R (j - 1)
theorem putIn_lt {p j : Nat} (x : Com) (R : Nat → Com) (h : j < p) : putIn p x R j = R j := by unfold putIn; rw [if_pos h]
theorem putIn_eq (p : Nat) (x : Com) (R : Nat → Com) : putIn p x R p = x := by unfold putIn; rw [if_neg (by omega), if_pos rfl]
theorem putIn_gt {p j : Nat} (x : Com) (R : Nat → Com) (h : p ≤ j) : putIn p x R (j + 1) = R j := by unfold putIn; rw [if_neg (by omega), if_neg (by omega), Nat.add_sub_cancel]

theorem ReqsAt.get {w : World} {b n : Nat} {R : Nat → Com} (h : ReqsAt w b 0 n R) (j : Nat) (hj : j < n) :
    ∃ p a q m, w.cell? ⟨b, j * 4, none⟩ = some (.int .u64 (R j).s) ∧ w.cell? ⟨b, j * 4 + 1, none⟩ = some (.int .u64 (R j).c) ∧ w.cell? ⟨b, j * 4 + 2, none⟩ = some (.string p) ∧ w.cell? ⟨b, j * 4 + 3, none⟩ = some (.slice a q m) := by
  obtain ⟨R', ⟨_, h1⟩, h2⟩ := h
  obtain ⟨g0, g1, g2, g3⟩ := h1 j hj
  obtain ⟨e0, e1⟩ := h2 j hj
  simp only [Nat.zero_add] at g0 g1 g2 g3
  exact ⟨_, _, _, _, by rw [g0, e0], by rw [g1, e1], g2, g3⟩

/-- what a store of one record at place k of the row wants -/
theorem LaidR.slots {w : World} {B n k : Nat} {R : Nat → Com} (h : LaidR w B n k R) (i : Nat) (hi : i < n) :
    (∃ v, w.cell? ⟨B, i * 4, none⟩ = some v) ∧ (∃ v, w.cell? ⟨B, i * 4 + 1, none⟩ = some v) ∧ (∃ v, w.cell? ⟨B, i * 4 + 2, none⟩ = some v) ∧ (∃ v, w.cell? ⟨B, i * 4 + 3, none⟩ = some v) ∧
      w.frozen? ⟨B, i * 4, none⟩ = false ∧ w.frozen? ⟨B, i * 4 + 1, none⟩ = false ∧ w.frozen? ⟨B, i * 4 + 2, none⟩ = false ∧ w.frozen? ⟨B, i * 4 + 3, none⟩ = false := by
  obtain ⟨xs, hown, _⟩ := h
  have hlen : xs.length = n * 4 := hown.1
  refine ⟨⟨xs[i * 4]'(by omega), by rw [hown.cellAt _ (by omega)]; simp⟩, ⟨xs[i * 4 + 1]'(by omega), by rw [hown.cellAt _ (by omega)]; simp⟩, ⟨xs[i * 4 + 2]'(by omega), by rw [hown.cellAt _ (by omega)]; simp⟩, ⟨xs[i * 4 + 3]'(by omega), by rw [hown.cellAt _ (by omega)]; simp⟩, hown.frozenAt _, hown.frozenAt _, hown.frozenAt _, hown.frozenAt _⟩

theorem LaidR.lt {w : World} {B n k : Nat} {R : Nat → Com} (h : LaidR w B n k R) : B < w.heap.size := by
  obtain ⟨xs, hown, _⟩ := h
  exact (hown.lt B rfl).2

theorem keys_one {w : World} {x : Com} (h : KeysAt w x.a x.n) (hm : x.n ≤ maxLen) : AllKeys w 1 (fun _ => x) := fun _ _ => ⟨h, hm⟩

set_option maxRecDepth 100000 in
set_option maxHeartbeats 2000000 in
theorem ins_some (b off n c p : Nat) (xs xc : Int) (xp : ByteArray) (xa : Option Addr) (xn xm : Nat) (R : Nat → Com) (hn0 : 0 < n) (hp : p ≤ n) (hm : n ≤ maxLen) (w : World) (hc : CellsAt w b off n R) (hk : AllKeys w n R) (hx : KeysAt w xa xn) (hxm : xn ≤ maxLen) :
    Calls Try.prog 4 #[.slice (some ⟨b, off, none⟩) n c, .int .i64 p, .agg #[.int .u64 xs, .int .u64 xc, .string xp, .slice xa xn xm]] w fun e w' => e = .returned (.bool true) ∧ Below w.heap.size w w' := by
  have hB0 : Below w.heap.size w (w.alloc (.cells #[.int .u64 xs, .int .u64 xc, .string xp, .slice xa xn xm] 34)) := (Below.refl _ _).alloc (Nat.le_refl _) _
  have HC0 := hide (hc.below hB0 hc.1)
  have HK0 := hide (hk.below hB0)
  have HX0 := hide (hx.below hB0)
  have HO0 : Hid (OneAt (w.alloc (.cells #[.int .u64 xs, .int .u64 xc, .string xp, .slice xa xn xm] 34)) w.heap.size ⟨xs, xc, xp, xa, xn, xm⟩) := ⟨by simp, by simp, by simp, by simp, by simp⟩
  have HB0 := hide hB0
  have HM := hide hm
  have HXM := hide hxm
  have hbs := hc.1
  clear hc hk hx hB0 hm hxm
  have hnil := fun w => Lib.run_eql_slice_nil (P := Try.prog) w 27
  have hneq := neq31
  have hd2 : decide ((p : Int) < 0) = false := decide_eq_false (by omega)
  have hd3 : decide ((n : Int) < (p : Int)) = false := decide_eq_false (by omega)
  have hd4 : ((n : Int) == 0) = false := by simp; omega
  obtain ⟨i38, hi38, hz38, hs38, hb38⟩ := info_parts Try.info38
  go_enter Try.func4, Try.ntmps4
  go_wp2_with fail
  refine (bytes2_some _ _ _ _ _ _ _ _ _ _ _ R _ HC0.out HK0.out HX0.out HXM.out).mono ?_
  rintro e w1 ⟨⟨r, rfl, hsm⟩, hb1⟩
  have HB1 := hide (HB0.out.trans (hb1.mono (by simp)))
  have HC1 := hide (HC0.out.below hb1 (by simp; omega))
  have HK1 := hide (HK0.out.below hb1)
  have HX1 := hide (HX0.out.below hb1)
  have HO1 := hide (HO0.out.below hb1 (by simp))
  clear hb1 HB0 HC0 HK0 HX0 HO0
  cases r
  · clear hsm
    go_wp2
    go_ret
    exact ⟨rfl, HB1.out⟩
  obtain ⟨hn20, hf, hx20⟩ := hsm rfl
  have HF := hide hf
  clear hf hsm
  go_wp2_with fail
  refine (size_some _ _ _ _ _ R HM.out _ HC1.out HK1.out).mono ?_
  rintro e w1' ⟨⟨r, rfl⟩, rfl⟩
  by_cases hr : r < 0
  · go_wp2
    go_ret
    exact ⟨rfl, HB1.out⟩
  have hd1 : decide (r < 0) = false := decide_eq_false hr
  clear hr
  obtain ⟨hob, o0, o1, o2, o3⟩ := HO1.out
  simp only at o0 o1 o2 o3
  have hB2 : Below w1'.heap.size w1' (w1'.alloc (.cells #[.int .u64 xs, .int .u64 xc, .string xp, .slice xa xn xm] 34)) := (Below.refl _ _).alloc (Nat.le_refl _) _
  have HC2 := hide (HC1.out.below hB2 HC1.out.1)
  have HK2 := hide (HK1.out.below hB2)
  have HX2 := hide (HX1.out.below hB2)
  have HO2 := hide (HO1.out.below hB2 hob)
  have HB2 := hide (HB1.out.trans (hB2.mono HB1.out.size))
  have HP2 : Hid (OneAt (w1'.alloc (.cells #[.int .u64 xs, .int .u64 xc, .string xp, .slice xa xn xm] 34)) w1'.heap.size ⟨xs, xc, xp, xa, xn, xm⟩) := ⟨by simp, by simp, by simp, by simp, by simp⟩
  clear hB2 HC1 HK1 HX1 HO1 HB1
  go_wp2_with fail
  refine (size_some _ _ _ _ _ (fun _ => ⟨xs, xc, xp, xa, xn, xm⟩) (by unfold maxLen; omega) _ HP2.out.cells (keys_one HX2.out HXM.out)).mono ?_
  rintro e w2 ⟨⟨r2, rfl⟩, hw2⟩
  have HW2 := hide hw2
  clear hw2
  rw [← HW2.out] at HC2 HK2 HX2 HO2 HB2
  clear HW2 HP2 o0 o1 o2 o3
  by_cases hr2 : r2 < 0
  · go_wp2
    go_ret
    exact ⟨rfl, HB2.out⟩
  have hd5 : decide (r2 < 0) = false := decide_eq_false hr2
  clear hr2
  go_wp2_with fail
  refine (toReqs_some _ _ _ _ R hn20 HF.out _ HC2.out HK2.out).mono ?_
  rintro e w3 ⟨rfl, hl3, hb3⟩
  have HQ3 := hide hl3.cells
  have hs3 : w2.heap.size < w3.heap.size := hl3.lt
  have HC3 := hide (HC2.out.below hb3 HC2.out.1)
  have HX3 := hide (HX2.out.below hb3)
  have hob2 : w.heap.size < w2.heap.size := HO2.out.1
  have HO3 := hide (HO2.out.below hb3 hob2)
  have HB3 := hide (HB2.out.trans (hb3.mono HB2.out.size))
  have hbs3 : b < w3.heap.size := HC3.out.1
  clear hl3 hb3 HC2 HK2 HX2 HO2 HB2 hob
  go_wp2_with (first | (at_make; refine wpList_make_full _ rfl _ _ _ rfl w3.heap.size _ _ _ _ Try.underlying25 hi38 hz38 hs38 _ _ _ _ (n + 1) rfl rfl (by omega) (by omega) (by rw [hb38]; omega) (by unfold maxLen; omega) (Nat.le_refl _) ?_))
  intro w4 hown hgr
  have hb4 : Below w3.heap.size w3 w4 := (Below.refl _ _).grown hgr (Nat.le_refl _) (by simp)
  have HL4 : Hid (LaidR w4 w3.heap.size (n + 1) 0 (putIn p ⟨xs, xc, xp, xa, xn, xm⟩ R)) := ⟨_, hown, fun j hj => absurd hj (Nat.not_lt_zero _)⟩
  clear hown hgr hi38 hz38 hs38 hb38 i38
  go_wp2
  go_loopw [11] (fun i wr => ∃ m : Nat, m ≤ p ∧ i = .int .i64 m ∧ Hid (LaidR wr w3.heap.size (n + 1) m (putIn p ⟨xs, xc, xp, xa, xn, xm⟩ R)) ∧ Below w3.heap.size w3 wr) (fun i _ => p - (intOf i).toNat)
  case atStart => exact ⟨0, Nat.zero_le _, rfl, HL4, hb4⟩
  case round =>
    clear HL4 hb4
    obtain ⟨m, hmp, rfl, HL, hbw⟩ := hrel
    by_cases hlt : m < p
    · obtain ⟨yp, ya, yq, ym, q0, q1, q2, q3⟩ := (HQ3.out.below hbw hs3).get m (by omega)
      obtain ⟨⟨v0, r0⟩, ⟨v1, r1⟩, ⟨v2, r2'⟩, ⟨v3, r3⟩, f0, f1, f2, f3⟩ := HL.out.slots m (by omega)
      have HS := hide (HL.out.step (by omega) yp ya yq ym)
      rw [putIn_lt _ R hlt] at HS
      go_wp2
      exact ⟨⟨m + 1, by omega, by go_num, HS.out, ((((hbw.setCell (Nat.le_refl _) _).setCell (Nat.le_refl _) _).setCell (Nat.le_refl _) _).setCell (Nat.le_refl _) _)⟩, by simp [intOf]; omega⟩
    obtain ⟨wa, rfl⟩ : ∃ wa : World, wa = wr := ⟨_, rfl⟩
    obtain rfl : p = m := by omega
    clear hmp
    obtain ⟨hob, o0, o1, o2, o3⟩ := HO3.out.below hbw (by omega)
    simp only at o0 o1 o2 o3
    have hsa : w3.heap.size < wa.heap.size := HL.out.lt
    go_wp2_with fail
    refine (toReq_any _ _ _ _ _ _ hx20 _ (HX3.out.below hbw)).mono ?_
    rintro e w5 ⟨⟨ya, yq, ym, rfl⟩, hb5⟩
    have HL5 := hide (HL.out.below hb5)
    obtain ⟨⟨v0, r0⟩, ⟨v1, r1⟩, ⟨v2, r2'⟩, ⟨v3, r3⟩, f0, f1, f2, f3⟩ := HL5.out.slots p (by omega)
    have HS := hide (HL5.out.step (by omega) xp ya yq ym)
    rw [putIn_eq] at HS
    have hb35 := hbw.trans (hb5.mono (by omega))
    clear hbw HL HL5 o0 o1 o2 o3 hb5 hob
    go_wp2
    go_loopw [12] (fun i wr => ∃ m : Nat, p ≤ m ∧ m ≤ n ∧ i = .int .i64 m ∧ Hid (LaidR wr w3.heap.size (n + 1) (m + 1) (putIn p ⟨xs, xc, xp, xa, xn, xm⟩ R)) ∧ Below w3.heap.size w3 wr) (fun i _ => n - (intOf i).toNat)
    case atStart => exact ⟨p, Nat.le_refl _, hp, rfl, HS.out, ((((hb35.setCell (Nat.le_refl _) _).setCell (Nat.le_refl _) _).setCell (Nat.le_refl _) _).setCell (Nat.le_refl _) _)⟩
    case round =>
      clear HS hb35 r0 r1 r2' r3 f0 f1 f2 f3
      obtain ⟨m, hpm, hmn, rfl, HL, hbw⟩ := hrel
      by_cases hlt : m < n
      · obtain ⟨yp2, ya2, yq2, ym2, q0, q1, q2, q3⟩ := (HQ3.out.below hbw hs3).get m (by omega)
        obtain ⟨⟨v0, r0⟩, ⟨v1, r1⟩, ⟨v2, r2'⟩, ⟨v3, r3⟩, f0, f1, f2, f3⟩ := HL.out.slots (m + 1) (by omega)
        have HS := hide (HL.out.step (by omega) yp2 ya2 yq2 ym2)
        rw [putIn_gt _ R hpm] at HS
        go_wp2
        exact ⟨⟨m + 1, by omega, by omega, by go_num, HS.out, ((((hbw.setCell (Nat.le_refl _) _).setCell (Nat.le_refl _) _).setCell (Nat.le_refl _) _).setCell (Nat.le_refl _) _)⟩, by simp [intOf]; omega⟩
      obtain ⟨w6, rfl⟩ : ∃ w6 : World, w6 = wr := ⟨_, rfl⟩
      obtain rfl : n = m := by omega
      clear hmn hpm
      have hs6 : w3.heap.size < w6.heap.size := HL.out.lt
      have HQ6 := hide (HQ3.out.below hbw hs3)
      have HG6 := hide HL.out.cells
      go_wp2_with fail
      refine (named_some _ _ _ _ R hn0 (by omega) _ HQ6.out).mono ?_
      rintro e w7 ⟨rfl, hn7, hb7⟩
      have HN7 := hide hn7
      clear hn7
      have hs7 : w6.heap.size < w7.heap.size := HN7.out.1
      have HG7 := hide (HG6.out.below hb7 hs6)
      go_wp2_with fail
      refine (named_some _ _ _ _ (putIn p ⟨xs, xc, xp, xa, xn, xm⟩ R) (by omega) (by omega) _ HG7.out).mono ?_
      rintro e w8 ⟨rfl, hn8, hb8⟩
      have HN8 := hide hn8
      clear hn8
      have hs8 : w7.heap.size < w8.heap.size := HN8.out.1
      have HA8 := hide (HN7.out.below hb8 hs7)
      have hb38 := hbw.trans ((hb7.trans (hb8.mono hb7.size)).mono (by omega))
      have HB8 := hide (HB3.out.trans (hb38.mono HB3.out.size))
      have HC8 := hide (HC3.out.below hb38 hbs3)
      have HO8 := hide (HO3.out.below hb38 (by omega))
      have hbs8 : b < w8.heap.size := by omega
      clear hbw hb7 hb8 hb38 HN7 HG6 HG7 HQ6 HL HQ3 HC3 HX3 HO3 HB3 HF HM HXM
      obtain ⟨hob, o0, o1, o2, o3⟩ := HO8.out
      obtain ⟨n0, n1⟩ := HN8.out.2 p (by omega)
      rw [putIn_eq] at n0 n1
      simp only at o0 o1 o2 o3 n0 n1
      have hpn : (p : Int) < (n : Int) + 1 := by omega
      go_wp2
      go_quiet (fail)
      go_wp2
      clear o0 o1 o2 o3 n0 n1 hob
      go_loopw [15] (fun i wr => ∃ m : Nat, m ≤ n ∧ i = .int .i64 m ∧ Below w8.heap.size w8 wr) (fun i _ => n - (intOf i).toNat)
      case atStart => exact ⟨0, Nat.zero_le _, rfl, below_drewN (Below.refl _ _) _⟩
      case round =>
        obtain ⟨m, hmn, rfl, hbw⟩ := hrel
        by_cases hlt : m < n
        · obtain ⟨q0, q1, _, _⟩ := (HC8.out.below hbw hbs8).2 m hlt
          obtain ⟨p0, p1⟩ := (HA8.out.below hbw (by omega)).2 m hlt
          by_cases hmp : m < p
          · have hd9 : decide ((p : Int) ≤ (m : Int)) = false := decide_eq_false (by omega)
            obtain ⟨n0, n1⟩ := (HN8.out.below hbw hs8).2 m (by omega)
            rw [putIn_lt _ R hmp] at n0 n1
            have hmn1 : (m : Int) < (n : Int) + 1 := by omega
            go_wp2
            go_quiet (fail)
            go_wp2
            go_quiet (fail)
            go_wp2
            exact ⟨⟨m + 1, by omega, by go_num, below_drewN hbw _⟩, by simp [intOf]; omega⟩
          · have hd9 : decide ((p : Int) ≤ (m : Int)) = true := decide_eq_true (by omega)
            obtain ⟨n0, n1⟩ := (HN8.out.below hbw hs8).2 (m + 1) (by omega)
            rw [putIn_gt _ R (by omega)] at n0 n1
            have hmn1 : (m : Int) + 1 < (n : Int) + 1 := by omega
            go_wp2
            go_quiet (fail)
            go_wp2
            go_quiet (fail)
            go_wp2
            exact ⟨⟨m + 1, by omega, by go_num, below_drewN hbw _⟩, by simp [intOf]; omega⟩
        · go_wp2
          go_ret
          exact ⟨rfl, HB8.out.trans (hbw.mono HB8.out.size)⟩

end Go.Proofs.Qxb6613118a
