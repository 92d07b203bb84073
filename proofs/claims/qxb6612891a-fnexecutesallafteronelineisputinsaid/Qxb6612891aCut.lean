import Derived.Test.Qxb6612891aScreen
namespace Go.Proofs.Qxb6612891a
open Go.RowKit

theorem LinesAt.take {w : World} {ao : Option Addr} {n k : Nat} {L : Nat → Line} (h : LinesAt w ao n L) (hk : k ≤ n) : LinesAt w ao k L := by
  rcases h with h | ⟨b, off, h1, h2, h3⟩
  · exact .inl (by omega)
  · exact .inr ⟨b, off, h1, h2, fun j hj => h3 j (by omega)⟩

theorem CellsAt.drop {w : World} {b off n k : Nat} {L : Nat → Line} (h : CellsAt w b off n L) (hk : k ≤ n) : CellsAt w b (off + k * 3) (n - k) (fun j => L (k + j)) := by
  obtain ⟨h2, h3⟩ := h
  refine ⟨h2, fun j hj => ?_⟩
  have := h3 (k + j) (by omega)
  rwa [show off + (k + j) * 3 = off + k * 3 + j * 3 by omega] at this

theorem allExe_split (n k : Nat) (L : Nat → Line) (hk : k ≤ n) : allExe n L = (allExe k L && allExe (n - k) (fun j => L (k + j))) := by
  rw [Bool.eq_iff_iff, Bool.and_eq_true, allExe_iff, allExe_iff, allExe_iff]
  refine ⟨fun h => ⟨fun j hj => h j (by omega), fun j hj => h (k + j) (by omega)⟩, fun ⟨h1, h2⟩ j hj => ?_⟩
  by_cases hjk : j < k
  · exact h1 j hjk
  · have := h2 (j - k) (by omega)
    rwa [show k + (j - k) = j by omega] at this

set_option maxHeartbeats 1000000 in
theorem cut_some (b off n c : Nat) (k : Int) (L : Nat → Line) (hnc : n ≤ c) (hm : n ≤ maxLen) (w : World) (hc : CellsAt w b off n L) :
    Calls Try.prog 3 #[.slice (some ⟨b, off, none⟩) n c, .int .i64 k] w fun e w' => e = .returned (.bool true) ∧ Below w.heap.size w w' := by
  have HC := hide hc
  have HL : Hid (LinesAt w (some ⟨b, off, none⟩) n L) := .inr ⟨b, off, rfl, hc⟩
  have hbs := hc.1
  clear hc
  have HM := hide hm
  clear hm
  by_cases hbig : 65536 < n
  · go_enter Try.func3, Try.ntmps3
    go_wp2_with fail
    refine (bytes_any _ _ _ _ _ _ HL.out).mono ?_
    rintro e w1 ⟨⟨r, rfl⟩, rfl⟩
    cases r
    · go_wp2
      go_ret
      exact ⟨rfl, Below.refl _ _⟩
    · go_wp2
      go_ret
      exact ⟨rfl, Below.refl _ _⟩
  by_cases hk0 : k < 0
  · go_enter Try.func3, Try.ntmps3
    go_wp2_with fail
    refine (bytes_any _ _ _ _ _ _ HL.out).mono ?_
    rintro e w1 ⟨⟨r, rfl⟩, rfl⟩
    cases r
    · go_wp2
      go_ret
      exact ⟨rfl, Below.refl _ _⟩
    go_wp2_with fail
    refine (big_any _ _ _ _ _ HM.out _ HL.out).mono ?_
    rintro e w1 ⟨⟨r, rfl⟩, rfl⟩
    cases r
    · go_wp2
      go_ret
      exact ⟨rfl, Below.refl _ _⟩
    · go_wp2
      go_ret
      exact ⟨rfl, Below.refl _ _⟩
  obtain ⟨k, rfl⟩ := Int.eq_ofNat_of_zero_le (show 0 ≤ k by omega)
  by_cases hkn : n < k
  · go_enter Try.func3, Try.ntmps3
    go_wp2_with fail
    refine (bytes_any _ _ _ _ _ _ HL.out).mono ?_
    rintro e w1 ⟨⟨r, rfl⟩, rfl⟩
    cases r
    · go_wp2
      go_ret
      exact ⟨rfl, Below.refl _ _⟩
    go_wp2_with fail
    refine (big_any _ _ _ _ _ HM.out _ HL.out).mono ?_
    rintro e w1 ⟨⟨r, rfl⟩, rfl⟩
    cases r
    · go_wp2
      go_ret
      exact ⟨rfl, Below.refl _ _⟩
    · go_wp2
      go_ret
      exact ⟨rfl, Below.refl _ _⟩
  have hd1 : decide ((65536 : Int) < (n : Int)) = false := decide_eq_false (by omega)
  have hd2 : decide ((k : Int) < 0) = false := decide_eq_false (by omega)
  have hd3 : decide ((n : Int) < (k : Int)) = false := decide_eq_false (by omega)
  by_cases hck : c = k
  · go_enter Try.func3, Try.ntmps3
    go_wp2_with fail
    refine (bytes_any _ _ _ _ _ _ HL.out).mono ?_
    rintro e w1 ⟨⟨r, rfl⟩, rfl⟩
    cases r
    · go_wp2
      go_ret
      exact ⟨rfl, Below.refl _ _⟩
    go_wp2_with fail
    refine (big_any _ _ _ _ _ HM.out _ HL.out).mono ?_
    rintro e w1 ⟨⟨r, rfl⟩, rfl⟩
    cases r
    case true =>
      go_wp2
      go_ret
      exact ⟨rfl, Below.refl _ _⟩
    go_wp2_with fail
    refine (screen_any _ _ _ L (by simp) (by omega) _ HL.out).mono ?_
    rintro e w2 ⟨ao2, rfl, hl2, hb2⟩
    have HL2 := hide hl2
    clear hl2
    go_wp2_with fail
    refine (all_any _ _ _ L HM.out _ HL2.out).mono ?_
    rintro e w3 ⟨rfl, hb3⟩
    have hb13 := hb2.trans (hb3.mono hb2.size)
    clear hb2 hb3 HL2
    have HL3 := hide (HL.out.below hb13)
    go_wp2_with fail
    refine (screen_any _ _ _ L (by simp) (by omega) _ (HL3.out.take (by omega))).mono ?_
    rintro e w4 ⟨ao4, rfl, hl4, hb4⟩
    have HL4 := hide hl4
    clear hl4
    go_wp2_with fail
    refine (all_any _ _ _ L (Nat.le_trans (by omega) HM.out) _ HL4.out).mono ?_
    rintro e w5 ⟨rfl, hb5⟩
    have hb15 := hb13.trans ((hb4.trans (hb5.mono hb4.size)).mono hb13.size)
    clear hb4 hb5 HL4 HL3 hb13
    have HC5 := hide (HC.out.below hb15 HC.out.1)
    go_wp2_with fail
    refine (screen_any _ _ _ (fun j => L (k + j)) (by simp) (by omega) _ (.inl (by omega))).mono ?_
    rintro e w6 ⟨ao6, rfl, hl6, hb6⟩
    have HL6 := hide hl6
    clear hl6
    go_wp2_with fail
    refine (all_any _ _ _ (fun j => L (k + j)) (Nat.le_trans (by omega) HM.out) _ HL6.out).mono ?_
    rintro e w7 ⟨rfl, hb7⟩
    have hb17 := hb15.trans ((hb6.trans (hb7.mono hb6.size)).mono hb15.size)
    clear hb6 hb7 HL6 HC5 hb15
    have HC7 := hide (HC.out.below hb17 HC.out.1)
    go_wp2
    go_loop [8, 9] (fun t i => ∃ m : Nat, m ≤ n ∧ i = .int .i64 m ∧ t = .bool (allExe m L)) (fun _ i => n - (intOf i).toNat)
    case atStart => exact ⟨0, Nat.zero_le _, rfl, rfl⟩
    case round =>
      obtain ⟨m, hm, rfl, rfl⟩ := hrel
      by_cases hlt : m < n
      · obtain ⟨q0, q1, q2⟩ := HC7.out.2 m hlt
        cases hx : isExe (L m).2.1 with
        | true =>
          have HX := hide hx
          have hx2 : (((L m).2.1).toList == [101, 120, 101, 99, 117, 116, 101]) = true := hx
          clear hx
          go_wp2
          go_round
          case rel => exact ⟨m + 1, by omega, by go_num, by rw [allExe_succ, HX.out, Bool.and_true]⟩
          case measure => simp [intOf]; omega
        | false =>
          have HX := hide hx
          have hx2 : (((L m).2.1).toList == [101, 120, 101, 99, 117, 116, 101]) = false := hx
          clear hx
          go_wp2
          go_round
          case rel => exact ⟨m + 1, by omega, by go_num, by rw [allExe_succ, HX.out, Bool.and_false]⟩
          case measure => simp [intOf]; omega
      · obtain rfl : m = n := by omega
        have HA := hide (allExe_split m k L (by omega))
        generalize allExe m L = x1 at *
        generalize allExe k L = x2 at *
        generalize allExe (m - k) (fun j => L (k + j)) = x3 at *
        obtain rfl := HA.out
        cases x2 <;> cases x3 <;>
        · go_wp2
          go_ret
          exact ⟨rfl, hb17⟩
  go_enter Try.func3, Try.ntmps3
  go_wp2_with fail
  refine (bytes_any _ _ _ _ _ _ HL.out).mono ?_
  rintro e w1 ⟨⟨r, rfl⟩, rfl⟩
  cases r
  · go_wp2
    go_ret
    exact ⟨rfl, Below.refl _ _⟩
  go_wp2_with fail
  refine (big_any _ _ _ _ _ HM.out _ HL.out).mono ?_
  rintro e w1 ⟨⟨r, rfl⟩, rfl⟩
  cases r
  case true =>
    go_wp2
    go_ret
    exact ⟨rfl, Below.refl _ _⟩
  go_wp2_with fail
  refine (screen_any _ _ _ L (by simp) (by omega) _ HL.out).mono ?_
  rintro e w2 ⟨ao2, rfl, hl2, hb2⟩
  have HL2 := hide hl2
  clear hl2
  go_wp2_with fail
  refine (all_any _ _ _ L HM.out _ HL2.out).mono ?_
  rintro e w3 ⟨rfl, hb3⟩
  have hb13 := hb2.trans (hb3.mono hb2.size)
  clear hb2 hb3 HL2
  have HL3 := hide (HL.out.below hb13)
  go_wp2_with fail
  refine (screen_any _ _ _ L (by simp) (by omega) _ (HL3.out.take (by omega))).mono ?_
  rintro e w4 ⟨ao4, rfl, hl4, hb4⟩
  have HL4 := hide hl4
  clear hl4
  go_wp2_with fail
  refine (all_any _ _ _ L (Nat.le_trans (by omega) HM.out) _ HL4.out).mono ?_
  rintro e w5 ⟨rfl, hb5⟩
  have hb15 := hb13.trans ((hb4.trans (hb5.mono hb4.size)).mono hb13.size)
  clear hb4 hb5 HL4 HL3 hb13
  have HC5 := hide (HC.out.below hb15 HC.out.1)
  go_wp2_with fail
  refine (screen_any _ _ _ (fun j => L (k + j)) (by simp) (by omega) _ (.inr ⟨_, _, rfl, HC5.out.drop (by omega)⟩)).mono ?_
  rintro e w6 ⟨ao6, rfl, hl6, hb6⟩
  have HL6 := hide hl6
  clear hl6
  go_wp2_with fail
  refine (all_any _ _ _ (fun j => L (k + j)) (Nat.le_trans (by omega) HM.out) _ HL6.out).mono ?_
  rintro e w7 ⟨rfl, hb7⟩
  have hb17 := hb15.trans ((hb6.trans (hb7.mono hb6.size)).mono hb15.size)
  clear hb6 hb7 HL6 HC5 hb15
  have HC7 := hide (HC.out.below hb17 HC.out.1)
  go_wp2
  go_loop [8, 9] (fun t i => ∃ m : Nat, m ≤ n ∧ i = .int .i64 m ∧ t = .bool (allExe m L)) (fun _ i => n - (intOf i).toNat)
  case atStart => exact ⟨0, Nat.zero_le _, rfl, rfl⟩
  case round =>
    obtain ⟨m, hm, rfl, rfl⟩ := hrel
    by_cases hlt : m < n
    · obtain ⟨q0, q1, q2⟩ := HC7.out.2 m hlt
      cases hx : isExe (L m).2.1 with
      | true =>
        have HX := hide hx
        have hx2 : (((L m).2.1).toList == [101, 120, 101, 99, 117, 116, 101]) = true := hx
        clear hx
        go_wp2
        go_round
        case rel => exact ⟨m + 1, by omega, by go_num, by rw [allExe_succ, HX.out, Bool.and_true]⟩
        case measure => simp [intOf]; omega
      | false =>
        have HX := hide hx
        have hx2 : (((L m).2.1).toList == [101, 120, 101, 99, 117, 116, 101]) = false := hx
        clear hx
        go_wp2
        go_round
        case rel => exact ⟨m + 1, by omega, by go_num, by rw [allExe_succ, HX.out, Bool.and_false]⟩
        case measure => simp [intOf]; omega
    · obtain rfl : m = n := by omega
      have HA := hide (allExe_split m k L (by omega))
      generalize allExe m L = x1 at *
      generalize allExe k L = x2 at *
      generalize allExe (m - k) (fun j => L (k + j)) = x3 at *
      obtain rfl := HA.out
      cases x2 <;> cases x3 <;>
      · go_wp2
        go_ret
        exact ⟨rfl, hb17⟩

theorem screen_zero (ao : Option Addr) (c : Nat) (hnc : ao = none → c = 0) (w : World) :
    Calls Try.prog 7 #[.slice ao 0 c] w fun e w' => ∃ ao', e = .returned (.agg #[.slice ao' 0 0]) ∧ Below w.heap.size w w' := by
  refine (screen_any ao 0 c (fun _ => default) hnc (by omega) w (.inl rfl)).mono ?_
  rintro e w2 ⟨ao2, rfl, _, hb2⟩
  exact ⟨ao2, rfl, hb2⟩

theorem all_zero (ao : Option Addr) (c : Nat) (w : World) :
    Calls Try.prog 8 #[.agg #[.slice ao 0 c]] w fun e w' => e = .returned (.bool true) ∧ Below w.heap.size w w' := by
  refine (all_any ao 0 c (fun _ => default) (by omega) w (.inl rfl)).mono ?_
  rintro e w2 ⟨rfl, hb2⟩
  exact ⟨rfl, hb2⟩

set_option maxHeartbeats 1000000 in
theorem cut_none (ao : Option Addr) (c : Nat) (k : Int) (hnc : ao = none → c = 0) (w : World) :
    Calls Try.prog 3 #[.slice ao 0 c, .int .i64 k] w fun e w' => e = .returned (.bool true) ∧ Below w.heap.size w w' := by
  have HN := hide hnc
  clear hnc
  rcases (show k = 0 ∨ k < 0 ∨ 0 < k by omega) with hk0 | hk0 | hk0
  · subst hk0
    go_enter Try.func3, Try.ntmps3
    go_wp2_with fail
    refine (bytes_none _ _ _ _).mono ?_
    rintro e w1 ⟨⟨r, rfl⟩, rfl⟩
    cases r
    · go_wp2
      go_ret
      exact ⟨rfl, Below.refl _ _⟩
    go_wp2_with fail
    refine (big_none _ _ _ _).mono ?_
    rintro e w1 ⟨⟨r, rfl⟩, rfl⟩
    cases r
    case true =>
      go_wp2
      go_ret
      exact ⟨rfl, Below.refl _ _⟩
    go_wp2_with fail
    refine (screen_zero _ _ HN.out _).mono ?_
    rintro e w2 ⟨ao2, rfl, hb2⟩
    go_wp2_with fail
    refine (all_zero _ _ _).mono ?_
    rintro e w3 ⟨rfl, hb3⟩
    go_wp2_with fail
    refine (screen_zero _ _ HN.out _).mono ?_
    rintro e w4 ⟨ao4, rfl, hb4⟩
    go_wp2_with fail
    refine (all_zero _ _ _).mono ?_
    rintro e w5 ⟨rfl, hb5⟩
    go_wp2_with fail
    refine (screen_zero _ _ HN.out _).mono ?_
    rintro e w6 ⟨ao6, rfl, hb6⟩
    go_wp2_with fail
    refine (all_zero _ _ _).mono ?_
    rintro e w7 ⟨rfl, hb7⟩
    have h13 := hb2.trans (hb3.mono hb2.size)
    have h15 := h13.trans ((hb4.trans (hb5.mono hb4.size)).mono h13.size)
    have h17 := h15.trans ((hb6.trans (hb7.mono hb6.size)).mono h15.size)
    clear hb2 hb3 hb4 hb5 hb6 hb7 h13 h15
    go_wp2
    refine wp_loop_rounds 1 ?_
    rw [rounds_succ]
    go_wp2
    go_ret
    exact ⟨rfl, h17⟩
  · go_enter Try.func3, Try.ntmps3
    go_wp2_with fail
    refine (bytes_none _ _ _ _).mono ?_
    rintro e w1 ⟨⟨r, rfl⟩, rfl⟩
    cases r
    · go_wp2
      go_ret
      exact ⟨rfl, Below.refl _ _⟩
    go_wp2_with fail
    refine (big_none _ _ _ _).mono ?_
    rintro e w1 ⟨⟨r, rfl⟩, rfl⟩
    cases r
    case true =>
      go_wp2
      go_ret
      exact ⟨rfl, Below.refl _ _⟩
    go_wp2
    go_ret
    exact ⟨rfl, Below.refl _ _⟩
  · go_enter Try.func3, Try.ntmps3
    go_wp2_with fail
    refine (bytes_none _ _ _ _).mono ?_
    rintro e w1 ⟨⟨r, rfl⟩, rfl⟩
    cases r
    · go_wp2
      go_ret
      exact ⟨rfl, Below.refl _ _⟩
    go_wp2_with fail
    refine (big_none _ _ _ _).mono ?_
    rintro e w1 ⟨⟨r, rfl⟩, rfl⟩
    cases r
    case true =>
      go_wp2
      go_ret
      exact ⟨rfl, Below.refl _ _⟩
    go_wp2
    go_ret
    exact ⟨rfl, Below.refl _ _⟩

/-- the law: whatever the lines and the cut, it answers true, and nothing that was there has turned -/
theorem cut_any (ao : Option Addr) (n c : Nat) (k : Int) (L : Nat → Line) (hn0 : ao = none → c = 0) (hnc : n ≤ c) (hm : n ≤ maxLen) (w : World) (hl : LinesAt w ao n L) :
    Calls Try.prog 3 #[.slice ao n c, .int .i64 k] w fun e w' => e = .returned (.bool true) ∧ Below w.heap.size w w' := by
  rcases hl with rfl | ⟨b, off, rfl, hc⟩
  · exact cut_none ao c k hn0 w
  · exact cut_some b off n c k L hnc hm w hc

end Go.Proofs.Qxb6612891a
