import Derived.Test.Qxb6613118aNames
import Derived.Deep.QuietTactic
import Derived.BigQuiet
import Derived.WalkSmall
namespace Go.Proofs.Qxb6613118a
open Go.RowKit

theorem named_nil (ao : Option Addr) (c : Nat) (w : World) :
    Calls Try.prog 8 #[.slice ao 0 c] w fun e w' => e = .returned (.slice none 0 0) ∧ Below w.heap.size w w' := by
  refine (named_zero ao c w).mono ?_
  rintro e w' ⟨rfl, rfl⟩
  exact ⟨rfl, Below.refl _ _⟩

set_option maxRecDepth 100000 in
set_option maxHeartbeats 1000000 in
theorem cut_mid (b off n c k : Nat) (R : Nat → Com) (hm : n ≤ maxLen) (hk0 : 0 < k) (hkn : k < n) (w : World) (hc : CellsAt w b off n R) (hk : AllKeys w n R) :
    Calls Try.prog 3 #[.slice (some ⟨b, off, none⟩) n c, .int .i64 k] w fun e w' => e = .returned (.bool true) ∧ Below w.heap.size w w' := by
  have HC := hide hc
  have HK := hide hk
  have HM := hide hm
  have hbs := hc.1
  clear hc hk hm
  have hnil := fun w => Lib.run_eql_slice_nil (P := Try.prog) w 27
  have hneq := neq31
  have hd2 : decide ((k : Int) < 0) = false := decide_eq_false (by omega)
  have hd3 : decide ((n : Int) < (k : Int)) = false := decide_eq_false (by omega)
  have hd4 : ((n : Int) == 0) = false := by simp; omega
  have hd5 : ((k : Int) == 0) = false := by simp; omega
  have hd6 : ((k : Int) == (n : Int)) = false := by simp; omega
  have hck : ¬ n = k := by omega
  have hcast : ((n - k : Nat) : Int) = (n : Int) - (k : Int) := by omega
  go_enter Try.func3, Try.ntmps3
  go_wp2_with fail
  refine (bytes_some _ _ _ _ _ R _ HC.out HK.out).mono ?_
  rintro e w1 ⟨⟨r, rfl, hsm⟩, rfl⟩
  cases r
  · go_wp2
    go_ret
    exact ⟨rfl, Below.refl _ _⟩
  obtain ⟨hn20, hf⟩ := hsm rfl
  have HF := hide hf
  clear hf hsm
  go_wp2_with fail
  refine (size_some _ _ _ _ _ R HM.out _ HC.out HK.out).mono ?_
  rintro e w1 ⟨⟨r, rfl⟩, rfl⟩
  by_cases hr : r < 0
  · go_wp2
    go_ret
    exact ⟨rfl, Below.refl _ _⟩
  have hd1 : decide (r < 0) = false := decide_eq_false hr
  clear hr
  go_wp2_with fail
  refine (toReqs_some _ _ _ _ R hn20 HF.out _ HC.out HK.out).mono ?_
  rintro e w2 ⟨rfl, hl2, hb2⟩
  have HQ2 := hide hl2.cells
  clear hl2
  have hs2 : w1.heap.size < w2.heap.size := by obtain ⟨_, h, _⟩ := HQ2.out; exact h.1
  go_wp2_with fail
  refine (named_some _ _ _ _ R (by omega) (by omega) _ HQ2.out).mono ?_
  rintro e w3 ⟨rfl, hn3, hb3⟩
  have HN3 := hide hn3
  clear hn3
  have hs3 : w2.heap.size < w3.heap.size := HN3.out.1
  have HQ3 := hide (HQ2.out.below hb3 hs2)
  go_wp2_with fail
  refine (named_some _ _ _ _ R (by omega) (by omega) _ (HQ3.out.take (by omega))).mono ?_
  rintro e w4 ⟨rfl, hn4, hb4⟩
  have HN4 := hide hn4
  clear hn4
  have hs4 : w3.heap.size < w4.heap.size := HN4.out.1
  have HQ4 := hide (HQ3.out.below hb4 (by omega))
  go_wp2_with fail
  refine (named_some _ _ _ _ (fun j => R (k + j)) (by omega) (by omega) _ (by have := HQ4.out.drop (k := k) (by omega); simpa using this)).mono ?_
  rintro e w5 ⟨rfl, hn5, hb5⟩
  have HN5 := hide hn5
  clear hn5
  have hs5 : w4.heap.size < w5.heap.size := HN5.out.1
  have HA3 := hide (HN3.out.below (hb4.trans (hb5.mono hb4.size)) hs3)
  have HA4 := hide (HN4.out.below hb5 hs4)
  have HB5 := hide (((hb2.trans (hb3.mono (by omega))).trans (hb4.mono (by omega))).trans (hb5.mono (by omega)))
  have HC5 := hide (HC.out.below HB5.out HC.out.1)
  have hbs5 : b < w5.heap.size := by omega
  clear HN3 HN4 HQ2 HQ3 HQ4 hb2 hb3 hb4 hb5 HC HK HF HM
  go_wp2
  go_loopw [10] (fun i wr => ∃ m : Nat, m ≤ n ∧ i = .int .i64 m ∧ Below w5.heap.size w5 wr) (fun i _ => n - (intOf i).toNat)
  case atStart => exact ⟨0, Nat.zero_le _, rfl, Below.refl _ _⟩
  case round =>
    obtain ⟨m, hmn, rfl, hbw⟩ := hrel
    by_cases hlt : m < n
    · obtain ⟨q0, q1, _, _⟩ := (HC5.out.below hbw hbs5).2 m hlt
      obtain ⟨p0, p1⟩ := (HA3.out.below hbw (by omega)).2 m hlt
      go_wp2
      go_quiet (fail)
      go_wp2
      exact ⟨⟨m + 1, by omega, by go_num, below_drewN hbw _⟩, by simp [intOf]; omega⟩
    obtain ⟨wa, rfl⟩ : ∃ wa : World, wa = wr := ⟨_, rfl⟩
    go_wp2
    go_loopw [11] (fun i wr => ∃ m : Nat, m ≤ k ∧ i = .int .i64 m ∧ Below w5.heap.size w5 wr) (fun i _ => k - (intOf i).toNat)
    case atStart => exact ⟨0, Nat.zero_le _, rfl, hbw⟩
    case round =>
      clear hbw
      obtain ⟨m2, hmn2, rfl, hbw⟩ := hrel
      by_cases hlt : m2 < k
      · obtain ⟨q0, q1⟩ := (HA4.out.below hbw (by omega)).2 m2 hlt
        obtain ⟨p0, p1⟩ := (HA3.out.below hbw (by omega)).2 m2 (by omega)
        go_wp2
        go_quiet (fail)
        go_wp2
        exact ⟨⟨m2 + 1, by omega, by go_num, below_drewN hbw _⟩, by simp [intOf]; omega⟩
      obtain ⟨wb, rfl⟩ : ∃ wb : World, wb = wr := ⟨_, rfl⟩
      go_wp2
      go_loopw [12] (fun i wr => ∃ m : Nat, m ≤ (n - k) ∧ i = .int .i64 m ∧ Below w5.heap.size w5 wr) (fun i _ => (n - k) - (intOf i).toNat)
      case atStart => exact ⟨0, Nat.zero_le _, rfl, hbw⟩
      case round =>
        clear hbw
        obtain ⟨m3, hmn3, rfl, hbw⟩ := hrel
        by_cases hlt : m3 < (n - k)
        · obtain ⟨q0, q1⟩ := (HN5.out.below hbw (by omega)).2 m3 hlt
          obtain ⟨p0, p1⟩ := (HA3.out.below hbw (by omega)).2 (k + m3) (by omega)
          go_wp2
          go_quiet (fail)
          go_wp2
          exact ⟨⟨m3 + 1, by omega, by go_num, below_drewN hbw _⟩, by simp [intOf]; omega⟩
        go_wp2
        go_ret
        exact ⟨rfl, HB5.out.trans (hbw.mono HB5.out.size)⟩

set_option maxRecDepth 100000 in
set_option maxHeartbeats 1000000 in
theorem cut_lo (b off n c : Nat) (R : Nat → Com) (hm : n ≤ maxLen) (hn0 : 0 < n) (w : World) (hc : CellsAt w b off n R) (hk : AllKeys w n R) :
    Calls Try.prog 3 #[.slice (some ⟨b, off, none⟩) n c, .int .i64 0] w fun e w' => e = .returned (.bool true) ∧ Below w.heap.size w w' := by
  have HC := hide hc
  have HK := hide hk
  have HM := hide hm
  have hbs := hc.1
  clear hc hk hm
  have hnil := fun w => Lib.run_eql_slice_nil (P := Try.prog) w 27
  have hneq := neq31
  have hd4 : ((n : Int) == 0) = false := by simp; omega
  have hd6 : ((0 : Int) == (n : Int)) = false := by simp; omega
  have hck : ¬ n = 0 := by omega
  go_enter Try.func3, Try.ntmps3
  go_wp2_with fail
  refine (bytes_some _ _ _ _ _ R _ HC.out HK.out).mono ?_
  rintro e w1 ⟨⟨r, rfl, hsm⟩, rfl⟩
  cases r
  · go_wp2
    go_ret
    exact ⟨rfl, Below.refl _ _⟩
  obtain ⟨hn20, hf⟩ := hsm rfl
  have HF := hide hf
  clear hf hsm
  go_wp2_with fail
  refine (size_some _ _ _ _ _ R HM.out _ HC.out HK.out).mono ?_
  rintro e w1 ⟨⟨r, rfl⟩, rfl⟩
  by_cases hr : r < 0
  · go_wp2
    go_ret
    exact ⟨rfl, Below.refl _ _⟩
  have hd1 : decide (r < 0) = false := decide_eq_false hr
  clear hr
  go_wp2_with fail
  refine (toReqs_some _ _ _ _ R hn20 HF.out _ HC.out HK.out).mono ?_
  rintro e w2 ⟨rfl, hl2, hb2⟩
  have HQ2 := hide hl2.cells
  clear hl2
  have hs2 : w1.heap.size < w2.heap.size := by obtain ⟨_, h, _⟩ := HQ2.out; exact h.1
  go_wp2_with fail
  refine (named_some _ _ _ _ R (by omega) (by omega) _ HQ2.out).mono ?_
  rintro e w3 ⟨rfl, hn3, hb3⟩
  have HN3 := hide hn3
  clear hn3
  have hs3 : w2.heap.size < w3.heap.size := HN3.out.1
  have HQ3 := hide (HQ2.out.below hb3 hs2)
  go_wp2_with fail
  refine (named_nil _ _ _).mono ?_
  rintro e w4 ⟨rfl, hb4⟩
  have hs4 : w3.heap.size ≤ w4.heap.size := hb4.size
  have HQ4 := hide (HQ3.out.below hb4 (by omega))
  go_wp2_with fail
  refine (named_some _ _ _ _ R (by omega) (by omega) _ HQ4.out).mono ?_
  rintro e w5 ⟨rfl, hn5, hb5⟩
  have HN5 := hide hn5
  clear hn5
  have hs5 : w4.heap.size < w5.heap.size := HN5.out.1
  have HA3 := hide (HN3.out.below (hb4.trans (hb5.mono hb4.size)) hs3)
  have HB5 := hide (((hb2.trans (hb3.mono (by omega))).trans (hb4.mono (by omega))).trans (hb5.mono (by omega)))
  have HC5 := hide (HC.out.below HB5.out HC.out.1)
  have hbs5 : b < w5.heap.size := by omega
  clear HN3 HQ2 HQ3 HQ4 hb2 hb3 hb4 hb5 HC HK HF HM
  go_wp2
  go_loopw [10] (fun i wr => ∃ m : Nat, m ≤ n ∧ i = .int .i64 m ∧ Below w5.heap.size w5 wr) (fun i _ => n - (intOf i).toNat)
  case atStart => exact ⟨0, Nat.zero_le _, rfl, Below.refl _ _⟩
  case round =>
    obtain ⟨m, hmn, rfl, hbw⟩ := hrel
    by_cases hlt : m < n
    · obtain ⟨q0, q1, _, _⟩ := (HC5.out.below hbw hbs5).2 m hlt
      obtain ⟨p0, p1⟩ := (HA3.out.below hbw (by omega)).2 m hlt
      go_wp2
      go_quiet (fail)
      go_wp2
      exact ⟨⟨m + 1, by omega, by go_num, below_drewN hbw _⟩, by simp [intOf]; omega⟩
    obtain ⟨wa, rfl⟩ : ∃ wa : World, wa = wr := ⟨_, rfl⟩
    go_wp2
    refine wp_loop_rounds 1 ?_
    rw [rounds_succ]
    go_wp2
    go_loopw [12] (fun i wr => ∃ m : Nat, m ≤ n ∧ i = .int .i64 m ∧ Below w5.heap.size w5 wr) (fun i _ => n - (intOf i).toNat)
    case atStart => exact ⟨0, Nat.zero_le _, rfl, hbw⟩
    case round =>
      clear hbw
      obtain ⟨m3, hmn3, rfl, hbw⟩ := hrel
      by_cases hlt : m3 < n
      · obtain ⟨q0, q1⟩ := (HN5.out.below hbw (by omega)).2 m3 hlt
        obtain ⟨p0, p1⟩ := (HA3.out.below hbw (by omega)).2 (m3) (by omega)
        go_wp2
        go_quiet (fail)
        go_wp2
        exact ⟨⟨m3 + 1, by omega, by go_num, below_drewN hbw _⟩, by simp [intOf]; omega⟩
      go_wp2
      go_ret
      exact ⟨rfl, HB5.out.trans (hbw.mono HB5.out.size)⟩

set_option maxRecDepth 100000 in
set_option maxHeartbeats 1000000 in
theorem cut_hi (b off n c : Nat) (R : Nat → Com) (hm : n ≤ maxLen) (hn0 : 0 < n) (w : World) (hc : CellsAt w b off n R) (hk : AllKeys w n R) :
    Calls Try.prog 3 #[.slice (some ⟨b, off, none⟩) n c, .int .i64 n] w fun e w' => e = .returned (.bool true) ∧ Below w.heap.size w w' := by
  have HC := hide hc
  have HK := hide hk
  have HM := hide hm
  have hbs := hc.1
  clear hc hk hm
  have hnil := fun w => Lib.run_eql_slice_nil (P := Try.prog) w 27
  have hneq := neq31
  have hd2 : decide ((n : Int) < 0) = false := decide_eq_false (by omega)
  have hd4 : ((n : Int) == 0) = false := by simp; omega
  go_enter Try.func3, Try.ntmps3
  go_wp2_with fail
  refine (bytes_some _ _ _ _ _ R _ HC.out HK.out).mono ?_
  rintro e w1 ⟨⟨r, rfl, hsm⟩, rfl⟩
  cases r
  · go_wp2
    go_ret
    exact ⟨rfl, Below.refl _ _⟩
  obtain ⟨hn20, hf⟩ := hsm rfl
  have HF := hide hf
  clear hf hsm
  go_wp2_with fail
  refine (size_some _ _ _ _ _ R HM.out _ HC.out HK.out).mono ?_
  rintro e w1 ⟨⟨r, rfl⟩, rfl⟩
  by_cases hr : r < 0
  · go_wp2
    go_ret
    exact ⟨rfl, Below.refl _ _⟩
  have hd1 : decide (r < 0) = false := decide_eq_false hr
  clear hr
  go_wp2_with fail
  refine (toReqs_some _ _ _ _ R hn20 HF.out _ HC.out HK.out).mono ?_
  rintro e w2 ⟨rfl, hl2, hb2⟩
  have HQ2 := hide hl2.cells
  clear hl2
  have hs2 : w1.heap.size < w2.heap.size := by obtain ⟨_, h, _⟩ := HQ2.out; exact h.1
  go_wp2_with fail
  refine (named_some _ _ _ _ R (by omega) (by omega) _ HQ2.out).mono ?_
  rintro e w3 ⟨rfl, hn3, hb3⟩
  have HN3 := hide hn3
  clear hn3
  have hs3 : w2.heap.size < w3.heap.size := HN3.out.1
  have HQ3 := hide (HQ2.out.below hb3 hs2)
  go_wp2_with fail
  refine (named_some _ _ _ _ R (by omega) (by omega) _ (HQ3.out.take (by omega))).mono ?_
  rintro e w4 ⟨rfl, hn4, hb4⟩
  have HN4 := hide hn4
  clear hn4
  have hs4 : w3.heap.size < w4.heap.size := HN4.out.1
  have HQ4 := hide (HQ3.out.below hb4 (by omega))
  go_wp2_with fail
  refine (named_nil _ _ _).mono ?_
  rintro e w5 ⟨rfl, hb5⟩
  have hs5 : w4.heap.size ≤ w5.heap.size := hb5.size
  have HA3 := hide (HN3.out.below (hb4.trans (hb5.mono hb4.size)) hs3)
  have HA4 := hide (HN4.out.below hb5 hs4)
  have HB5 := hide (((hb2.trans (hb3.mono (by omega))).trans (hb4.mono (by omega))).trans (hb5.mono (by omega)))
  have HC5 := hide (HC.out.below HB5.out HC.out.1)
  have hbs5 : b < w5.heap.size := by omega
  clear HN3 HN4 HQ2 HQ3 HQ4 hb2 hb3 hb4 hb5 HC HK HF HM
  go_wp2
  go_loopw [10] (fun i wr => ∃ m : Nat, m ≤ n ∧ i = .int .i64 m ∧ Below w5.heap.size w5 wr) (fun i _ => n - (intOf i).toNat)
  case atStart => exact ⟨0, Nat.zero_le _, rfl, Below.refl _ _⟩
  case round =>
    obtain ⟨m, hmn, rfl, hbw⟩ := hrel
    by_cases hlt : m < n
    · obtain ⟨q0, q1, _, _⟩ := (HC5.out.below hbw hbs5).2 m hlt
      obtain ⟨p0, p1⟩ := (HA3.out.below hbw (by omega)).2 m hlt
      go_wp2
      go_quiet (fail)
      go_wp2
      exact ⟨⟨m + 1, by omega, by go_num, below_drewN hbw _⟩, by simp [intOf]; omega⟩
    obtain ⟨wa, rfl⟩ : ∃ wa : World, wa = wr := ⟨_, rfl⟩
    go_wp2
    go_loopw [11] (fun i wr => ∃ m : Nat, m ≤ n ∧ i = .int .i64 m ∧ Below w5.heap.size w5 wr) (fun i _ => n - (intOf i).toNat)
    case atStart => exact ⟨0, Nat.zero_le _, rfl, hbw⟩
    case round =>
      clear hbw
      obtain ⟨m2, hmn2, rfl, hbw⟩ := hrel
      by_cases hlt : m2 < n
      · obtain ⟨q0, q1⟩ := (HA4.out.below hbw (by omega)).2 m2 hlt
        obtain ⟨p0, p1⟩ := (HA3.out.below hbw (by omega)).2 m2 (by omega)
        go_wp2
        go_quiet (fail)
        go_wp2
        exact ⟨⟨m2 + 1, by omega, by go_num, below_drewN hbw _⟩, by simp [intOf]; omega⟩
      obtain ⟨wb, rfl⟩ : ∃ wb : World, wb = wr := ⟨_, rfl⟩
      go_wp2
      refine wp_loop_rounds 1 ?_
      rw [rounds_succ]
      go_wp2
      go_ret
      exact ⟨rfl, HB5.out.trans (hbw.mono HB5.out.size)⟩

end Go.Proofs.Qxb6613118a
