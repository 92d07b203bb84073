import Derived.Test.Qxb6612891aJoin
namespace Go.Proofs.Qxb6612891a
open Go.RowKit

theorem Try.info30 : (Try.prog.info? 30).map (fun i => (i.zero, i.size, i.bytes)) = some (some (.agg #[.string ⟨#[]⟩, .string ⟨#[]⟩, .string ⟨#[]⟩]), 3, 48) := by kernel_rfl

set_option maxHeartbeats 1000000 in
theorem put_some (b off n c : Nat) (k : Nat) (x0 x1 x2 : ByteArray) (L : Nat → Line) (hnc : n ≤ c) (hm : n ≤ 65536) (hk : k ≤ n) (h0 : x0.size ≤ 1048576) (h1 : x1.size ≤ 1048576) (h2 : x2.size ≤ 1048576) (w : World) (hc : CellsAt w b off n L) :
    Calls Try.prog 4 #[.slice (some ⟨b, off, none⟩) n c, .int .i64 k, .agg #[.string x0, .string x1, .string x2]] w fun e w' => e = .returned (.bool true) ∧ Below w.heap.size w w' := by
  have hB1 : Below w.heap.size w (w.alloc (.cells #[.string x0, .string x1, .string x2] 30)) := (Below.refl _ _).alloc (Nat.le_refl _) _
  have HC := hide (hc.below hB1 hc.1)
  have hbs := hc.1
  clear hc
  have HL : Hid (LinesAt (w.alloc (.cells #[.string x0, .string x1, .string x2] 30)) (some ⟨b, off, none⟩) n L) := .inr ⟨b, off, rfl, HC.out⟩
  have HB1 := hide hB1
  clear hB1
  have hd1 : decide ((65536 : Int) < (n : Int)) = false := decide_eq_false (by omega)
  have hd2 : decide ((k : Int) < 0) = false := decide_eq_false (by omega)
  have hd3 : decide ((n : Int) < (k : Int)) = false := decide_eq_false (by omega)
  have hd4 : decide ((1048576 : Int) < (x0.size : Int)) = false := decide_eq_false (by omega)
  have hd5 : decide ((1048576 : Int) < (x1.size : Int)) = false := decide_eq_false (by omega)
  have hd6 : decide ((1048576 : Int) < (x2.size : Int)) = false := decide_eq_false (by omega)
  obtain ⟨i30, hi30, hz30, hs30, hb30⟩ := info_parts Try.info30
  go_enter Try.func4, Try.ntmps4
  go_wp2_with fail
  refine (bytes2_any _ _ _ _ _ _ _ L _ HL.out).mono ?_
  rintro e w2 ⟨⟨r, rfl⟩, hb2⟩
  have e0 : w2.cell? ⟨w.heap.size, 0, none⟩ = some (.string x0) := by rw [hb2.cell (by simp)]; simp
  have e1 : w2.cell? ⟨w.heap.size, 1, none⟩ = some (.string x1) := by rw [hb2.cell (by simp)]; simp
  have e2 : w2.cell? ⟨w.heap.size, 2, none⟩ = some (.string x2) := by rw [hb2.cell (by simp)]; simp
  cases r
  · go_wp2
    go_ret
    exact ⟨rfl, HB1.out.trans (hb2.mono (by simp))⟩
  have HC2 := hide (HC.out.below hb2 (by simp; omega))
  go_wp2_with fail
  refine (big_any _ _ _ _ L (by unfold maxLen; omega) _ (.inr ⟨_, _, rfl, HC2.out⟩)).mono ?_
  rintro e w2' ⟨⟨r, rfl⟩, rfl⟩
  cases r
  case true =>
    go_wp2
    go_ret
    exact ⟨rfl, HB1.out.trans (hb2.mono (by simp))⟩
  have hz2 : w.heap.size + 1 ≤ w2'.heap.size := by have := hb2.size; simpa using this
  have HB2 := hide (HB1.out.trans (hb2.mono (by simp)))
  clear hb2
  go_wp2_with (first | (at_make; refine wpList_make_own _ rfl _ _ _ rfl w2'.heap.size _ _ _ _ Try.underlying22 hi30 hz30 hs30 _ _ _ (n + 1) rfl rfl (by omega) (by rw [hb30]; omega) (by unfold maxLen; omega) (Nat.le_refl _) ?_))
  intro w3 hown3 hgr3
  have hb3 : Below w2'.heap.size w2' w3 := (Below.refl _ _).grown hgr3 (Nat.le_refl _) (by simp)
  have HC3 := hide (HC2.out.below hb3 HC2.out.1)
  have f0 : w3.cell? ⟨w.heap.size, 0, none⟩ = some (.string x0) := by rw [hb3.cell (by exact hz2)]; exact e0
  have f1 : w3.cell? ⟨w.heap.size, 1, none⟩ = some (.string x1) := by rw [hb3.cell (by exact hz2)]; exact e1
  have f2 : w3.cell? ⟨w.heap.size, 2, none⟩ = some (.string x2) := by rw [hb3.cell (by exact hz2)]; exact e2
  have HB3 := hide (HB2.out.trans (hb3.mono (by omega)))
  have hb3s : w2'.heap.size ≤ w3.heap.size := hb3.size
  clear e0 e1 e2 hgr3 hb3
  have Hown3 := hide hown3
  clear hown3
  go_wp2_with (first | (at_builtin; refine wpList_append_fits _ rfl _ _ _ rfl w2'.heap.size _ _ _ Try.underlying22 hi30 hs30 w2'.heap.size 0 (n + 1) [] rfl Hown3.out ⟨b, off, none⟩ k c (row k L) rfl (row_length _ _) ?_ (row_one _ _) (by omega) ?_))
  · intro j u hj
    have hj' : j < k * 3 := by have := (List.getElem?_eq_some_iff.1 hj).1; rwa [row_length] at this
    rw [row_get _ _ _ hj'] at hj
    rw [← hj, WideShapes.add_plain]
    exact fld_cells HC3.out j (by omega)
  intro w4 hown4 hgr4
  have hb34 : Below w2'.heap.size w3 w4 := (Below.refl _ _).grown hgr4 hb3s (by simp)
  have g0 : w4.cell? ⟨w.heap.size, 0, none⟩ = some (.string x0) := by rw [hb34.cell (by exact hz2)]; exact f0
  have g1 : w4.cell? ⟨w.heap.size, 1, none⟩ = some (.string x1) := by rw [hb34.cell (by exact hz2)]; exact f1
  have g2 : w4.cell? ⟨w.heap.size, 2, none⟩ = some (.string x2) := by rw [hb34.cell (by exact hz2)]; exact f2
  have HC4 := hide (HC3.out.below hb34 (by omega))
  have HB4 := hide (HB3.out.trans (hb34.mono (by omega)))
  have hs4 : w2'.heap.size ≤ w4.heap.size := Nat.le_trans hb3s hb34.size
  clear f0 f1 f2 hgr4 hb34 Hown3
  have Hown4 := hide (hown4.alloc (.cells #[.string x0, .string x1, .string x2] 30))
  clear hown4
  go_wp2_with (first | (at_builtin; refine wpList_append_fits _ rfl _ _ _ rfl w2'.heap.size _ _ _ Try.underlying22 hi30 hs30 w2'.heap.size k (n + 1) (row k L) rfl Hown4.out ⟨w4.heap.size, 0, none⟩ 1 1 (row 1 fun _ => (x0, x1, x2)) rfl (row_length _ _) ?_ (row_one _ _) (by omega) ?_))
  · intro j u hj
    have hj' : j < 3 := by have := (List.getElem?_eq_some_iff.1 hj).1; rwa [row_length] at this
    rw [row_get _ _ _ hj'] at hj
    rw [← hj, WideShapes.add_plain]
    rcases (show j = 0 ∨ j = 1 ∨ j = 2 by omega) with rfl | rfl | rfl <;> simp [fld]
  intro w5 hown5 hgr5
  have hb45 : Below w2'.heap.size w4 w5 := ((Below.refl _ _).alloc hs4 _).grown hgr5 (by simp; omega) (by simp)
  have HC5 := hide (HC4.out.below hb45 (by omega))
  have HB5 := hide (HB4.out.trans (hb45.mono (by omega)))
  have hs5 : w2'.heap.size ≤ w5.heap.size := Nat.le_trans hs4 hb45.size
  have i1 : w5.cell? ⟨w.heap.size, 1, none⟩ = some (.string x1) := by rw [hb45.cell (by exact hz2)]; exact g1
  clear g0 g1 g2 hgr5 hb45 Hown4 HC4 HB4
  have Hown5 := hide hown5
  clear hown5
  by_cases hck : c = k
  · go_wp2_with (first | (at_builtin; refine wpList_append_fits _ rfl _ _ _ rfl w2'.heap.size _ _ _ Try.underlying22 hi30 hs30 w2'.heap.size (k + 1) (n + 1) _ rfl Hown5.out ⟨b, off, none⟩ (n - k) _ (row (n - k) fun j => L (k + j)) rfl (row_length _ _) ?_ (row_one _ _) (by omega) ?_))
    · intro j u hj
      have hj' : j < (n - k) * 3 := by have := (List.getElem?_eq_some_iff.1 hj).1; rwa [row_length] at this
      omega
    intro w6 hown6 hgr6
    have hb56 : Below w2'.heap.size w5 w6 := (Below.refl _ _).grown hgr6 hs5 (by simp)
    have HC6 := hide (HC5.out.below hb56 (by omega))
    have HB6 := hide (HB5.out.trans (hb56.mono (by omega)))
    have k1 : w6.cell? ⟨w.heap.size, 1, none⟩ = some (.string x1) := by rw [hb56.cell (by exact hz2)]; exact i1
    have hs6 : w2'.heap.size < w6.heap.size := (hown6.lt _ rfl).2
    have HG6 : Hid (CellsAt w6 w2'.heap.size 0 (k + 1 + (n - k)) (putIn k (x0, x1, x2) L)) := by
      rw [row_join, row_join, show k + (1 + (n - k)) = k + 1 + (n - k) by omega] at hown6
      exact own_cells hown6
    clear i1 hgr6 hb56 Hown5 HC5 HB5 hown6
    go_wp2_with fail
    refine (screen_any _ _ _ L (by simp) (by omega) _ (.inr ⟨_, _, rfl, HC6.out⟩)).mono ?_
    rintro e w7 ⟨ao7, rfl, hl7, hb7⟩
    have HL7 := hide hl7
    clear hl7
    go_wp2_with fail
    refine (all_any _ _ _ L (by unfold maxLen; omega) _ HL7.out).mono ?_
    rintro e w8 ⟨rfl, hb8⟩
    have hb68 := hb7.trans (hb8.mono hb7.size)
    clear hb7 hb8 HL7
    have HG8 := hide (HG6.out.below hb68 hs6)
    go_wp2_with fail
    refine (screen_any _ _ _ (putIn k (x0, x1, x2) L) (by simp) (by omega) _ (.inr ⟨_, _, rfl, HG8.out⟩)).mono ?_
    rintro e w9 ⟨ao9, rfl, hl9, hb9⟩
    have HL9 := hide hl9
    clear hl9
    go_wp2_with fail
    refine (all_any _ _ _ (putIn k (x0, x1, x2) L) (by unfold maxLen; omega) _ HL9.out).mono ?_
    rintro e wa ⟨rfl, hba⟩
    have hb6a := hb68.trans ((hb9.trans (hba.mono hb9.size)).mono hb68.size)
    clear hb9 hba HL9 HG8 HG6 hb68
    have HCa := hide (HC6.out.below hb6a (by omega))
    have ka : wa.cell? ⟨w.heap.size, 1, none⟩ = some (.string x1) := by rw [hb6a.cell (by show w.heap.size < w6.heap.size; omega)]; exact k1
    have HBa := hide (HB6.out.trans (hb6a.mono HB6.out.size))
    clear hb6a HC6 HB6 k1
    go_wp2
    go_loop [10, 11] (fun t i => ∃ m : Nat, m ≤ n ∧ i = .int .i64 m ∧ t = .bool (allExe m L)) (fun _ i => n - (intOf i).toNat)
    case atStart => exact ⟨0, Nat.zero_le _, rfl, rfl⟩
    case round =>
      obtain ⟨m, hm, rfl, rfl⟩ := hrel
      by_cases hlt : m < n
      · obtain ⟨q0, q1, q2⟩ := HCa.out.2 m hlt
        cases hx : isExe (L m).2.1 with
        | true =>
          have HX := hide hx
          have hx2 : (((L m).2.1).toList == [101, 120, 101, 99, 117, 116, 101]) = true := hx
          clear hx
          go_wp2
          go_round
          case rel => exact ⟨m + 1, by omega, by go_num, by rw [allExe_succ, HX.out, Bool.and_true]⟩
          case measure => simp [intOf]; omega
        | false =>
          have HX := hide hx
          have hx2 : (((L m).2.1).toList == [101, 120, 101, 99, 117, 116, 101]) = false := hx
          clear hx
          go_wp2
          go_round
          case rel => exact ⟨m + 1, by omega, by go_num, by rw [allExe_succ, HX.out, Bool.and_false]⟩
          case measure => simp [intOf]; omega
      · obtain rfl : m = n := by omega
        have HA : Hid (allExe (k + 1 + (m - k)) (putIn k (x0, x1, x2) L) = (allExe m L && isExe x1)) := by
          rw [Hid, show k + 1 + (m - k) = k + (1 + (m - k)) by omega]
          exact allExe_putIn m k (x0, x1, x2) L hk
        generalize allExe (k + 1 + (m - k)) (putIn k (x0, x1, x2) L) = y1 at *
        generalize allExe m L = y2 at *
        obtain rfl := HA.out
        cases hx : isExe x1 with
        | true =>
          have hx2 : (x1.toList == [101, 120, 101, 99, 117, 116, 101]) = true := hx
          clear hx HA
          cases y2 <;>
          · go_wp2
            go_ret
            exact ⟨rfl, HBa.out⟩
        | false =>
          have hx2 : (x1.toList == [101, 120, 101, 99, 117, 116, 101]) = false := hx
          clear hx HA
          cases y2 <;>
          · go_wp2
            go_ret
            exact ⟨rfl, HBa.out⟩
  go_wp2_with (first | (at_builtin; refine wpList_append_fits _ rfl _ _ _ rfl w2'.heap.size _ _ _ Try.underlying22 hi30 hs30 w2'.heap.size (k + 1) (n + 1) _ rfl Hown5.out ⟨b, off + k * 3, none⟩ (n - k) (c - k) (row (n - k) fun j => L (k + j)) rfl (row_length _ _) ?_ (row_one _ _) (by omega) ?_))
  · intro j u hj
    have hj' : j < (n - k) * 3 := by have := (List.getElem?_eq_some_iff.1 hj).1; rwa [row_length] at this
    rw [row_get _ _ _ hj'] at hj
    rw [← hj, WideShapes.add_plain]
    exact fld_cells (HC5.out.drop hk) j (by omega)
  intro w6 hown6 hgr6
  have hb56 : Below w2'.heap.size w5 w6 := (Below.refl _ _).grown hgr6 hs5 (by simp)
  have HC6 := hide (HC5.out.below hb56 (by omega))
  have HB6 := hide (HB5.out.trans (hb56.mono (by omega)))
  have k1 : w6.cell? ⟨w.heap.size, 1, none⟩ = some (.string x1) := by rw [hb56.cell (by exact hz2)]; exact i1
  have hs6 : w2'.heap.size < w6.heap.size := (hown6.lt _ rfl).2
  have HG6 : Hid (CellsAt w6 w2'.heap.size 0 (k + 1 + (n - k)) (putIn k (x0, x1, x2) L)) := by
    rw [row_join, row_join, show k + (1 + (n - k)) = k + 1 + (n - k) by omega] at hown6
    exact own_cells hown6
  clear i1 hgr6 hb56 Hown5 HC5 HB5 hown6
  go_wp2_with fail
  refine (screen_any _ _ _ L (by simp) (by omega) _ (.inr ⟨_, _, rfl, HC6.out⟩)).mono ?_
  rintro e w7 ⟨ao7, rfl, hl7, hb7⟩
  have HL7 := hide hl7
  clear hl7
  go_wp2_with fail
  refine (all_any _ _ _ L (by unfold maxLen; omega) _ HL7.out).mono ?_
  rintro e w8 ⟨rfl, hb8⟩
  have hb68 := hb7.trans (hb8.mono hb7.size)
  clear hb7 hb8 HL7
  have HG8 := hide (HG6.out.below hb68 hs6)
  go_wp2_with fail
  refine (screen_any _ _ _ (putIn k (x0, x1, x2) L) (by simp) (by omega) _ (.inr ⟨_, _, rfl, HG8.out⟩)).mono ?_
  rintro e w9 ⟨ao9, rfl, hl9, hb9⟩
  have HL9 := hide hl9
  clear hl9
  go_wp2_with fail
  refine (all_any _ _ _ (putIn k (x0, x1, x2) L) (by unfold maxLen; omega) _ HL9.out).mono ?_
  rintro e wa ⟨rfl, hba⟩
  have hb6a := hb68.trans ((hb9.trans (hba.mono hb9.size)).mono hb68.size)
  clear hb9 hba HL9 HG8 HG6 hb68
  have HCa := hide (HC6.out.below hb6a (by omega))
  have ka : wa.cell? ⟨w.heap.size, 1, none⟩ = some (.string x1) := by rw [hb6a.cell (by show w.heap.size < w6.heap.size; omega)]; exact k1
  have HBa := hide (HB6.out.trans (hb6a.mono HB6.out.size))
  clear hb6a HC6 HB6 k1
  go_wp2
  go_loop [10, 11] (fun t i => ∃ m : Nat, m ≤ n ∧ i = .int .i64 m ∧ t = .bool (allExe m L)) (fun _ i => n - (intOf i).toNat)
  case atStart => exact ⟨0, Nat.zero_le _, rfl, rfl⟩
  case round =>
    obtain ⟨m, hm, rfl, rfl⟩ := hrel
    by_cases hlt : m < n
    · obtain ⟨q0, q1, q2⟩ := HCa.out.2 m hlt
      cases hx : isExe (L m).2.1 with
      | true =>
        have HX := hide hx
        have hx2 : (((L m).2.1).toList == [101, 120, 101, 99, 117, 116, 101]) = true := hx
        clear hx
        go_wp2
        go_round
        case rel => exact ⟨m + 1, by omega, by go_num, by rw [allExe_succ, HX.out, Bool.and_true]⟩
        case measure => simp [intOf]; omega
      | false =>
        have HX := hide hx
        have hx2 : (((L m).2.1).toList == [101, 120, 101, 99, 117, 116, 101]) = false := hx
        clear hx
        go_wp2
        go_round
        case rel => exact ⟨m + 1, by omega, by go_num, by rw [allExe_succ, HX.out, Bool.and_false]⟩
        case measure => simp [intOf]; omega
    · obtain rfl : m = n := by omega
      have HA : Hid (allExe (k + 1 + (m - k)) (putIn k (x0, x1, x2) L) = (allExe m L && isExe x1)) := by
        rw [Hid, show k + 1 + (m - k) = k + (1 + (m - k)) by omega]
        exact allExe_putIn m k (x0, x1, x2) L hk
      generalize allExe (k + 1 + (m - k)) (putIn k (x0, x1, x2) L) = y1 at *
      generalize allExe m L = y2 at *
      obtain rfl := HA.out
      cases hx : isExe x1 with
      | true =>
        have hx2 : (x1.toList == [101, 120, 101, 99, 117, 116, 101]) = true := hx
        clear hx HA
        cases y2 <;>
        · go_wp2
          go_ret
          exact ⟨rfl, HBa.out⟩
      | false =>
        have hx2 : (x1.toList == [101, 120, 101, 99, 117, 116, 101]) = false := hx
        clear hx HA
        cases y2 <;>
        · go_wp2
          go_ret
          exact ⟨rfl, HBa.out⟩

end Go.Proofs.Qxb6612891a
