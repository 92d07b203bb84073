import Derived.Test.Qxb6612891aPutEarly
import Derived.Test.Qxb6612891aOpen
import Derived.ShutString
import Derived.ChangeOld
import Derived.Below
import Derived.Lib.SmallJoins
namespace Go.Proofs.Qxb6612891a
open Go.ChangeShapes Go.WideShapes Go.ChangeAt Go.RowKit Go.Joins
open Go.ChangeMaps (open_string shut_string)

set_option maxHeartbeats 1000000 in
theorem put_none (ao : Option Addr) (c : Nat) (x0 x1 x2 : ByteArray) (hn0 : ao = none → c = 0) (h0 : x0.size ≤ 1048576) (h1 : x1.size ≤ 1048576) (h2 : x2.size ≤ 1048576) (w : World) :
    Calls Try.prog 4 #[.slice ao 0 c, .int .i64 0, .agg #[.string x0, .string x1, .string x2]] w fun e w' => e = .returned (.bool true) ∧ Below w.heap.size w w' := by
  have hB1 : Below w.heap.size w (w.alloc (.cells #[.string x0, .string x1, .string x2] 30)) := (Below.refl _ _).alloc (Nat.le_refl _) _
  have HB1 := hide hB1
  clear hB1
  have HN := hide hn0
  clear hn0
  have hd4 : decide ((1048576 : Int) < (x0.size : Int)) = false := decide_eq_false (by omega)
  have hd5 : decide ((1048576 : Int) < (x1.size : Int)) = false := decide_eq_false (by omega)
  have hd6 : decide ((1048576 : Int) < (x2.size : Int)) = false := decide_eq_false (by omega)
  obtain ⟨i30, hi30, hz30, hs30, hb30⟩ := info_parts Try.info30
  go_enter Try.func4, Try.ntmps4
  go_wp2_with fail
  refine (bytes2_none _ _ _ _ _ _ _).mono ?_
  rintro e w2 ⟨⟨r, rfl⟩, hb2⟩
  have e0 : w2.cell? ⟨w.heap.size, 0, none⟩ = some (.string x0) := by rw [hb2.cell (by simp)]; simp
  have e1 : w2.cell? ⟨w.heap.size, 1, none⟩ = some (.string x1) := by rw [hb2.cell (by simp)]; simp
  have e2 : w2.cell? ⟨w.heap.size, 2, none⟩ = some (.string x2) := by rw [hb2.cell (by simp)]; simp
  cases r
  · go_wp2
    go_ret
    exact ⟨rfl, HB1.out.trans (hb2.mono (by simp))⟩
  go_wp2_with fail
  refine (big_none _ _ _ _).mono ?_
  rintro e w2' ⟨⟨r, rfl⟩, rfl⟩
  cases r
  case true =>
    go_wp2
    go_ret
    exact ⟨rfl, HB1.out.trans (hb2.mono (by simp))⟩
  have hz2 : w.heap.size + 1 ≤ w2'.heap.size := by have := hb2.size; simpa using this
  have HB2 := hide (HB1.out.trans (hb2.mono (by simp)))
  clear hb2
  go_wp2_with (first | (at_make; refine wpList_make_own _ rfl _ _ _ rfl w2'.heap.size _ _ _ _ Try.underlying22 hi30 hz30 hs30 _ _ _ 1 rfl rfl (by omega) (by rw [hb30]; omega) (by unfold maxLen; omega) (Nat.le_refl _) ?_))
  intro w3 hown3 hgr3
  have hb3 : Below w2'.heap.size w2' w3 := (Below.refl _ _).grown hgr3 (Nat.le_refl _) (by simp)
  have f0 : w3.cell? ⟨w.heap.size, 0, none⟩ = some (.string x0) := by rw [hb3.cell (by exact hz2)]; exact e0
  have f1 : w3.cell? ⟨w.heap.size, 1, none⟩ = some (.string x1) := by rw [hb3.cell (by exact hz2)]; exact e1
  have f2 : w3.cell? ⟨w.heap.size, 2, none⟩ = some (.string x2) := by rw [hb3.cell (by exact hz2)]; exact e2
  have HB3 := hide (HB2.out.trans (hb3.mono (by omega)))
  have hb3s : w2'.heap.size ≤ w3.heap.size := hb3.size
  clear e0 e1 e2 hgr3 hb3
  have Hown3 := hide hown3
  clear hown3
  go_wp2_with (first | (at_builtin; refine wpList_append_fits_any _ rfl _ _ _ rfl w2'.heap.size _ _ _ Try.underlying22 hi30 hs30 w2'.heap.size 0 1 [] rfl Hown3.out ao 0 c [] rfl rfl (fun h => ⟨rfl, HN.out h⟩) (by simp) (by simp) (by omega) ?_))
  intro w4 hown4 hgr4
  have hb34 : Below w2'.heap.size w3 w4 := (Below.refl _ _).grown hgr4 hb3s (by simp)
  have g0 : w4.cell? ⟨w.heap.size, 0, none⟩ = some (.string x0) := by rw [hb34.cell (by exact hz2)]; exact f0
  have g1 : w4.cell? ⟨w.heap.size, 1, none⟩ = some (.string x1) := by rw [hb34.cell (by exact hz2)]; exact f1
  have g2 : w4.cell? ⟨w.heap.size, 2, none⟩ = some (.string x2) := by rw [hb34.cell (by exact hz2)]; exact f2
  have HB4 := hide (HB3.out.trans (hb34.mono (by omega)))
  have hs4 : w2'.heap.size ≤ w4.heap.size := Nat.le_trans hb3s hb34.size
  clear f0 f1 f2 hgr4 hb34 Hown3
  have Hown4 := hide (hown4.alloc (.cells #[.string x0, .string x1, .string x2] 30))
  clear hown4
  go_wp2_with (first | (at_builtin; refine wpList_append_fits _ rfl _ _ _ rfl w2'.heap.size _ _ _ Try.underlying22 hi30 hs30 w2'.heap.size 0 1 _ rfl Hown4.out ⟨w4.heap.size, 0, none⟩ 1 1 (row 1 fun _ => (x0, x1, x2)) rfl (row_length _ _) ?_ (row_one _ _) (by omega) ?_))
  · intro j u hj
    have hj' : j < 3 := by have := (List.getElem?_eq_some_iff.1 hj).1; rwa [row_length] at this
    rw [row_get _ _ _ hj'] at hj
    rw [← hj, WideShapes.add_plain]
    rcases (show j = 0 ∨ j = 1 ∨ j = 2 by omega) with rfl | rfl | rfl <;> simp [fld]
  intro w5 hown5 hgr5
  have hb45 : Below w2'.heap.size w4 w5 := ((Below.refl _ _).alloc hs4 _).grown hgr5 (by simp; omega) (by simp)
  have HB5 := hide (HB4.out.trans (hb45.mono (by omega)))
  have hs5 : w2'.heap.size ≤ w5.heap.size := Nat.le_trans hs4 hb45.size
  have i1 : w5.cell? ⟨w.heap.size, 1, none⟩ = some (.string x1) := by rw [hb45.cell (by exact hz2)]; exact g1
  clear g0 g1 g2 hgr5 hb45 Hown4 HB4
  have Hown5 := hide hown5
  clear hown5
  go_wp2_with (first | (at_builtin; refine wpList_append_fits_any _ rfl _ _ _ rfl w2'.heap.size _ _ _ Try.underlying22 hi30 hs30 w2'.heap.size 1 1 _ rfl Hown5.out ao 0 c [] rfl rfl (fun h => ⟨rfl, HN.out h⟩) (by simp) (by simp) (by omega) ?_))
  intro w6 hown6 hgr6
  have hb56 : Below w2'.heap.size w5 w6 := (Below.refl _ _).grown hgr6 hs5 (by simp)
  have HB6 := hide (HB5.out.trans (hb56.mono (by omega)))
  have k1 : w6.cell? ⟨w.heap.size, 1, none⟩ = some (.string x1) := by rw [hb56.cell (by exact hz2)]; exact i1
  have hs6 : w2'.heap.size < w6.heap.size := (hown6.lt _ rfl).2
  have HG6 : Hid (CellsAt w6 w2'.heap.size 0 1 (fun _ => (x0, x1, x2))) := own_cells (by simpa using hown6)
  clear i1 hgr6 hb56 Hown5 HB5 hown6
  go_wp2_with fail
  refine (screen_zero _ _ HN.out _).mono ?_
  rintro e w7 ⟨ao7, rfl, hb7⟩
  go_wp2_with fail
  refine (all_zero _ _ _).mono ?_
  rintro e w8 ⟨rfl, hb8⟩
  have hb68 := hb7.trans (hb8.mono hb7.size)
  clear hb7 hb8
  have HG8 := hide (HG6.out.below hb68 hs6)
  go_wp2_with fail
  refine (screen_any _ _ _ (fun _ => (x0, x1, x2)) (by simp) (by omega) _ (.inr ⟨_, _, rfl, HG8.out⟩)).mono ?_
  rintro e w9 ⟨ao9, rfl, hl9, hb9⟩
  have HL9 := hide hl9
  clear hl9
  go_wp2_with fail
  refine (all_any _ _ _ (fun _ => (x0, x1, x2)) (by unfold maxLen; omega) _ HL9.out).mono ?_
  rintro e wa ⟨rfl, hba⟩
  have hb6a := hb68.trans ((hb9.trans (hba.mono hb9.size)).mono hb68.size)
  clear hb9 hba HL9 HG8 HG6 hb68
  have ka : wa.cell? ⟨w.heap.size, 1, none⟩ = some (.string x1) := by rw [hb6a.cell (by show w.heap.size < w6.heap.size; omega)]; exact k1
  have HBa := hide (HB6.out.trans (hb6a.mono HB6.out.size))
  clear hb6a HB6 k1
  have HA : Hid (allExe 1 (fun _ => (x0, x1, x2)) = isExe x1) := by simp [Hid, allExe, List.range, List.range.loop]
  generalize allExe 1 (fun _ => (x0, x1, x2)) = y1 at *
  obtain rfl := HA.out
  cases hx : isExe x1 with
  | true =>
    have hx2 : (x1.toList == [101, 120, 101, 99, 117, 116, 101]) = true := hx
    clear hx HA
    go_wp2
    refine wp_loop_rounds 1 ?_
    rw [rounds_succ]
    go_wp2
    go_ret
    exact ⟨rfl, HBa.out⟩
  | false =>
    have hx2 : (x1.toList == [101, 120, 101, 99, 117, 116, 101]) = false := hx
    clear hx HA
    go_wp2
    refine wp_loop_rounds 1 ?_
    rw [rounds_succ]
    go_wp2
    go_ret
    exact ⟨rfl, HBa.out⟩

/-- the law: whatever the lines, the place and the line put in, it answers true, and nothing that was there has turned -/
theorem put_any (ao : Option Addr) (n c : Nat) (k : Int) (x0 x1 x2 : ByteArray) (L : Nat → Line) (hn0 : ao = none → c = 0) (hnc : n ≤ c) (w : World) (hl : LinesAt w ao n L) :
    Calls Try.prog 4 #[.slice ao n c, .int .i64 k, .agg #[.string x0, .string x1, .string x2]] w fun e w' => e = .returned (.bool true) ∧ Below w.heap.size w w' := by
  by_cases hm : 65536 < n
  · exact put_long ao n c k x0 x1 x2 L hm w hl
  by_cases h0 : 1048576 < x0.size
  · exact put_big0 ao n c k x0 x1 x2 L (by omega) h0 w hl
  by_cases h1 : 1048576 < x1.size
  · exact put_big1 ao n c k x0 x1 x2 L (by omega) (by omega) h1 w hl
  by_cases h2 : 1048576 < x2.size
  · exact put_big2 ao n c k x0 x1 x2 L (by omega) (by omega) (by omega) h2 w hl
  by_cases hk0 : k < 0
  · exact put_low ao n c k x0 x1 x2 L (by omega) (by omega) (by omega) (by omega) hk0 w hl
  by_cases hk1 : (n : Int) < k
  · exact put_high ao n c k x0 x1 x2 L (by omega) (by omega) (by omega) (by omega) hk1 w hl
  obtain ⟨k, rfl⟩ := Int.eq_ofNat_of_zero_le (show 0 ≤ k by omega)
  rcases hl with rfl | ⟨b, off, rfl, hc⟩
  · obtain rfl : k = 0 := by omega
    exact put_none ao c x0 x1 x2 hn0 (by omega) (by omega) (by omega) w
  · exact put_some b off n c k x0 x1 x2 L hnc (by omega) (by omega) (by omega) (by omega) (by omega) w hc

theorem Try.own2 : ownKnob Try.prog.godebug = none := by kernel_rfl
theorem Try.laidOut2 : laidOutB Try.prog = true := by kernel_rfl

set_option maxRecDepth 100000 in
theorem put_lifted (os : Os) (started : os.Started) (H : Type) (enc : TypeId × Value → H) :
    ReturnsInHanded {} Try.checked os 4 .any (Rows.fnExecutesAllAfterOneLineIsPutInSpec.pre6 enc Try.prog Try.f4 Rows.fnExecutesAllAfterOneLineIsPutInRow.domain false) (Rows.fnExecutesAllAfterOneLineIsPutInSpec.post enc Try.prog Try.f4 false true false false) := by
  refine returnsInHanded_of_change (C := Try.checked) Try.own2 started (by kernel_rfl) Try.func4
    (ChangeSpec.witness6 (enc := enc) (C := Try.checked) false ⟨#[], #[.slice none 0 0, .int .i64 0, .agg #[.string ⟨#[]⟩, .string ⟨#[]⟩, .string ⟨#[]⟩]], []⟩ 8 (by kernel_rfl) (by kernel_rfl) (by kernel_rfl) (by kernel_rfl)) ?_
  intro W base args ds gs before hval0 hW hcnd _
  have hval : ∀ (j : Nat) t v, Try.f4.params[j]? = some t → args[j]? = some v → Value.okWide Try.prog W .any base t v := hval0
  have hW' := hW
  obtain ⟨p, q, hA0, hV, rfl, hfz, hnd⟩ := hW
  have hA : DataW.TrodAll enc Try.prog W 0 (fun _ => true) true Try.f4.params.toList args.toList ds p := hA0
  rw [Try.params4] at hA hval
  obtain ⟨v0, vs0, d0, ds0, p0, q0, hargs, rfl, rfl, h0, r0⟩ := trodAll_cons hA
  obtain ⟨v1, vs1, d1, ds1, p1, q1, rfl, rfl, rfl, h1, r1⟩ := trodAll_cons r0
  obtain ⟨v2, vs2, d2, ds2, p2, q2, rfl, rfl, rfl, h2, r2⟩ := trodAll_cons r1
  obtain ⟨rfl, rfl, rfl⟩ := trodAll_nil r2
  obtain rfl : args = #[v0, v1, v2] := by cases args; simp_all
  obtain ⟨rfl, rfl⟩ := trodVars_none hV
  obtain ⟨a0, len0, cap0, rfl⟩ := okWide_slice Try.underlying22 (hval 0 22 v0 rfl rfl)
  have k0 := h0
  have lt0 : ∀ x ∈ p0, x.block < W.heap.size := by obtain ⟨m, hm⟩ := k0; exact DataW.trod_lt m _ _ _ hm
  obtain ⟨L, hL, hn0, hlc, hlm⟩ := open_lines h0
  obtain ⟨a1, rfl, rfl, rfl, w1⟩ := open_int Try.underlying3 (hval 1 3 v1 rfl rfl) h1
  have k2 := h2
  have lt2 : ∀ x ∈ p2, x.block < W.heap.size := by obtain ⟨m, hm⟩ := k2; exact DataW.trod_lt m _ _ _ hm
  obtain ⟨x0, x1, x2, hx⟩ : ∃ x0 x1 x2 : ByteArray, v2 = .agg #[.string x0, .string x1, .string x2] := by
    obtain ⟨c0, c1, c2, y0, y1, y2, m, rfl, _, _, hy0, hy1, hy2⟩ := open_agg3 Try.underlying30 (by kernel_rfl) Try.cells30 (hval 2 30 v2 rfl rfl) h2
    obtain ⟨s0, e0, _, _⟩ := DataW.trod_string Try.underlying9 hy0
    obtain ⟨s1, e1, _, _⟩ := DataW.trod_string Try.underlying9 hy1
    obtain ⟨s2, e2, _, _⟩ := DataW.trod_string Try.underlying9 hy2
    simp at e0 e1 e2
    subst e0 e1 e2
    exact ⟨s0, s1, s2, rfl⟩
  subst hx
  clear hA0 hval0
  refine (put_any a0 len0 cap0 a1 x0 x1 x2 L hn0 hlc W hL).mono fun e W' ⟨he, bel⟩ => ?_
  subst he
  exact ⟨_, rfl, _, _, _, [], _, [], hW', trodAll_mk1 (shut_bool Try.underlying4 _), (trodAll_mk3 (Below.trod Try.laidOut2 (by kernel_rfl) (of_decide_eq_true (by kernel_rfl)) k0 bel lt0) (shut_int Try.underlying3 w1) (Below.trod Try.laidOut2 (by kernel_rfl) (of_decide_eq_true (by kernel_rfl)) k2 bel lt2)), rfl, bel.frame _, fun h => by cases h⟩

theorem put_over : Rows.fnExecutesAllAfterOneLineIsPutInRow.holds Try.pinned (OpenSpec.ofChange Rows.fnExecutesAllAfterOneLineIsPutInSpec) :=
  OpenClaim.holds_of_wide 4 Try.f4 rfl rfl rfl rfl rfl rfl rfl ⟨rfl, rfl, rfl, rfl, rfl⟩ rfl rfl rfl rfl rfl (by kernel_rfl) Try.func4 (by kernel_rfl)
    (of_decide_eq_true (by kernel_rfl)) (by unfold Func.isWrapper; first | (rw [if_pos (by decide +kernel)]; kernel_rfl) | (rw [if_neg (by decide +kernel)]; exact ⟨rfl, rfl⟩))
    (fun os started H enc _ => put_lifted os started H enc)

theorem put_proved : Rows.FnExecutesAllAfterOneLineIsPutInSaid := put_over

end Go.Proofs.Qxb6612891a
