import Derived.Test.Qxb6613118aCut
import Derived.Test.Qxb6613118aOpen
import Derived.ShutString
import Derived.ChangeOld
import Derived.Below
namespace Go.Proofs.Qxb6613118a
open Go.ChangeShapes Go.WideShapes Go.ChangeAt Go.RowKit
open Go.ChangeMaps (open_string shut_string)

set_option maxHeartbeats 1000000 in
theorem cut_low (b off n c : Nat) (k : Int) (R : Nat → Com) (hm : n ≤ maxLen) (hk0 : k < 0) (w : World) (hc : CellsAt w b off n R) (hk : AllKeys w n R) :
    Calls Try.prog 3 #[.slice (some ⟨b, off, none⟩) n c, .int .i64 k] w fun e w' => e = .returned (.bool true) ∧ Below w.heap.size w w' := by
  have HC := hide hc
  have HK := hide hk
  have HM := hide hm
  clear hc hk hm
  have hd2 : decide (k < 0) = true := decide_eq_true hk0
  go_enter Try.func3, Try.ntmps3
  go_wp2_with fail
  refine (bytes_some _ _ _ _ _ R _ HC.out HK.out).mono ?_
  rintro e w1 ⟨⟨r, rfl, hsm⟩, rfl⟩
  clear hsm
  cases r
  · go_wp2
    go_ret
    exact ⟨rfl, Below.refl _ _⟩
  go_wp2_with fail
  refine (size_some _ _ _ _ _ R HM.out _ HC.out HK.out).mono ?_
  rintro e w1 ⟨⟨r, rfl⟩, rfl⟩
  by_cases hr : r < 0
  · go_wp2
    go_ret
    exact ⟨rfl, Below.refl _ _⟩
  go_wp2
  go_ret
  exact ⟨rfl, Below.refl _ _⟩

set_option maxHeartbeats 1000000 in
theorem cut_high (b off n c : Nat) (k : Int) (R : Nat → Com) (hm : n ≤ maxLen) (hk1 : (n : Int) < k) (w : World) (hc : CellsAt w b off n R) (hk : AllKeys w n R) :
    Calls Try.prog 3 #[.slice (some ⟨b, off, none⟩) n c, .int .i64 k] w fun e w' => e = .returned (.bool true) ∧ Below w.heap.size w w' := by
  have HC := hide hc
  have HK := hide hk
  have HM := hide hm
  clear hc hk hm
  have hd2 : decide (k < 0) = false := decide_eq_false (by omega)
  have hd3 : decide ((n : Int) < k) = true := decide_eq_true hk1
  go_enter Try.func3, Try.ntmps3
  go_wp2_with fail
  refine (bytes_some _ _ _ _ _ R _ HC.out HK.out).mono ?_
  rintro e w1 ⟨⟨r, rfl, hsm⟩, rfl⟩
  clear hsm
  cases r
  · go_wp2
    go_ret
    exact ⟨rfl, Below.refl _ _⟩
  go_wp2_with fail
  refine (size_some _ _ _ _ _ R HM.out _ HC.out HK.out).mono ?_
  rintro e w1 ⟨⟨r, rfl⟩, rfl⟩
  by_cases hr : r < 0
  · go_wp2
    go_ret
    exact ⟨rfl, Below.refl _ _⟩
  go_wp2
  go_ret
  exact ⟨rfl, Below.refl _ _⟩

set_option maxRecDepth 100000 in
set_option maxHeartbeats 1000000 in
theorem cut_none (ao : Option Addr) (c : Nat) (k : Int) (hnc : ao = none → c = 0) (w : World) :
    Calls Try.prog 3 #[.slice ao 0 c, .int .i64 k] w fun e w' => e = .returned (.bool true) ∧ Below w.heap.size w w' := by
  have HN := hide hnc
  clear hnc
  rcases (show k = 0 ∨ k < 0 ∨ 0 < k by omega) with hk0 | hk0 | hk0
  · subst hk0
    have hnil := fun w => Lib.run_eql_slice_nil (P := Try.prog) w 27
    go_enter Try.func3, Try.ntmps3
    go_wp2_with fail
    refine (bytes_none _ _ _ (fun _ => ⟨0, 0, ⟨#[]⟩, none, 0, 0⟩) _).mono ?_
    rintro e w1 ⟨⟨r, rfl, hsm⟩, rfl⟩
    clear hsm
    cases r
    · go_wp2
      go_ret
      exact ⟨rfl, Below.refl _ _⟩
    go_wp2_with fail
    refine (size_none _ _ _ _).mono ?_
    rintro e w1 ⟨⟨r, rfl⟩, rfl⟩
    by_cases hr : r < 0
    · go_wp2
      go_ret
      exact ⟨rfl, Below.refl _ _⟩
    have hd1 : decide (r < 0) = false := decide_eq_false hr
    go_wp2_with fail
    refine (toReqs_zero _ _ HN.out _).mono ?_
    rintro e w2 ⟨ao2, rfl, hb2⟩
    go_wp2_with fail
    refine (named_zero _ _ _).mono ?_
    rintro e w3 ⟨rfl, rfl⟩
    go_wp2_with fail
    refine (named_zero _ _ _).mono ?_
    rintro e w4 ⟨rfl, rfl⟩
    go_wp2_with fail
    refine (named_zero _ _ _).mono ?_
    rintro e w5 ⟨rfl, rfl⟩
    go_wp2
    refine wp_loop_rounds 1 ?_
    rw [rounds_succ]
    go_wp2
    refine wp_loop_rounds 1 ?_
    rw [rounds_succ]
    go_wp2
    refine wp_loop_rounds 1 ?_
    rw [rounds_succ]
    go_wp2
    go_ret
    exact ⟨rfl, hb2⟩
  · have hd2 : decide (k < 0) = true := decide_eq_true hk0
    go_enter Try.func3, Try.ntmps3
    go_wp2_with fail
    refine (bytes_none _ _ _ (fun _ => ⟨0, 0, ⟨#[]⟩, none, 0, 0⟩) _).mono ?_
    rintro e w1 ⟨⟨r, rfl, hsm⟩, rfl⟩
    clear hsm
    cases r
    · go_wp2
      go_ret
      exact ⟨rfl, Below.refl _ _⟩
    go_wp2_with fail
    refine (size_none _ _ _ _).mono ?_
    rintro e w1 ⟨⟨r, rfl⟩, rfl⟩
    by_cases hr : r < 0
    · go_wp2
      go_ret
      exact ⟨rfl, Below.refl _ _⟩
    go_wp2
    go_ret
    exact ⟨rfl, Below.refl _ _⟩
  · have hd2 : decide (k < 0) = false := decide_eq_false (by omega)
    have hd3 : decide ((0 : Int) < k) = true := decide_eq_true hk0
    go_enter Try.func3, Try.ntmps3
    go_wp2_with fail
    refine (bytes_none _ _ _ (fun _ => ⟨0, 0, ⟨#[]⟩, none, 0, 0⟩) _).mono ?_
    rintro e w1 ⟨⟨r, rfl, hsm⟩, rfl⟩
    clear hsm
    cases r
    · go_wp2
      go_ret
      exact ⟨rfl, Below.refl _ _⟩
    go_wp2_with fail
    refine (size_none _ _ _ _).mono ?_
    rintro e w1 ⟨⟨r, rfl⟩, rfl⟩
    by_cases hr : r < 0
    · go_wp2
      go_ret
      exact ⟨rfl, Below.refl _ _⟩
    go_wp2
    go_ret
    exact ⟨rfl, Below.refl _ _⟩

/-- the law: whatever the commits and the cut, it answers true, and nothing that was there has turned -/
theorem cut_any (ao : Option Addr) (n c : Nat) (k : Int) (R : Nat → Com) (hn0 : ao = none → c = 0) (hm : n ≤ maxLen) (w : World) (hl : InAt w ao n R) :
    Calls Try.prog 3 #[.slice ao n c, .int .i64 k] w fun e w' => e = .returned (.bool true) ∧ Below w.heap.size w w' := by
  rcases hl with rfl | ⟨b, off, rfl, hc, hk⟩
  · exact cut_none ao c k hn0 w
  by_cases hz : n = 0
  · subst hz
    exact cut_none _ c k hn0 w
  by_cases hk0 : k < 0
  · exact cut_low b off n c k R hm hk0 w hc hk
  by_cases hk1 : (n : Int) < k
  · exact cut_high b off n c k R hm hk1 w hc hk
  obtain ⟨k, rfl⟩ := Int.eq_ofNat_of_zero_le (show 0 ≤ k by omega)
  by_cases hlo : k = 0
  · subst hlo
    exact cut_lo b off n c R hm (by omega) w hc hk
  by_cases hhi : k = n
  · subst hhi
    exact cut_hi b off k c R hm (by omega) w hc hk
  · exact cut_mid b off n c k R hm (by omega) (by omega) w hc hk

theorem Try.own : ownKnob Try.prog.godebug = none := by kernel_rfl
theorem Try.laidOut : laidOutB Try.prog = true := by kernel_rfl

set_option maxRecDepth 100000 in
theorem cut_lifted (os : Os) (started : os.Started) (H : Type) (enc : TypeId × Value → H) :
    ReturnsInHanded {} Try.checked os 3 .any (Rows.fnCommittedOfCutsAtAnyPlaceSpec.pre6 enc Try.prog Try.f3 Rows.fnCommittedOfCutsAtAnyPlaceRow.domain false) (Rows.fnCommittedOfCutsAtAnyPlaceSpec.post enc Try.prog Try.f3 false true false false) := by
  refine returnsInHanded_of_change (C := Try.checked) Try.own started (by kernel_rfl) Try.func3
    (ChangeSpec.witness6 (enc := enc) (C := Try.checked) false ⟨#[], #[.slice none 0 0, .int .i64 0], []⟩ 8 (by kernel_rfl) (by kernel_rfl) (by kernel_rfl) (by kernel_rfl)) ?_
  intro W base args ds gs before hval0 hW hcnd _
  have hval : ∀ (j : Nat) t v, Try.f3.params[j]? = some t → args[j]? = some v → Value.okWide Try.prog W .any base t v := hval0
  have hW' := hW
  obtain ⟨p, q, hA0, hV, rfl, hfz, hnd⟩ := hW
  have hA : DataW.TrodAll enc Try.prog W 0 (fun _ => true) true Try.f3.params.toList args.toList ds p := hA0
  rw [Try.params3] at hA hval
  obtain ⟨v0, vs0, d0, ds0, p0, q0, hargs, rfl, rfl, h0, r0⟩ := trodAll_cons hA
  obtain ⟨v1, vs1, d1, ds1, p1, q1, rfl, rfl, rfl, h1, r1⟩ := trodAll_cons r0
  obtain ⟨rfl, rfl, rfl⟩ := trodAll_nil r1
  obtain rfl : args = #[v0, v1] := by cases args; simp_all
  obtain ⟨rfl, rfl⟩ := trodVars_none hV
  obtain ⟨a0, len0, cap0, rfl⟩ := okWide_slice Try.underlying22 (hval 0 22 v0 rfl rfl)
  have k0 := h0
  have lt0 : ∀ x ∈ p0, x.block < W.heap.size := by obtain ⟨m, hm⟩ := k0; exact DataW.trod_lt m _ _ _ hm
  obtain ⟨R, hL, hn0, hlc, hlm⟩ := open_commits h0
  obtain ⟨a1, rfl, rfl, rfl, w1⟩ := open_int Try.underlying3 (hval 1 3 v1 rfl rfl) h1
  clear hA0 hval0
  refine (cut_any a0 len0 cap0 a1 R hn0 hlm W hL).mono fun e W' ⟨he, bel⟩ => ?_
  subst he
  exact ⟨_, rfl, _, _, _, [], _, [], hW', trodAll_mk1 (shut_bool Try.underlying4 _), (trodAll_mk2 (Below.trod Try.laidOut (by kernel_rfl) (of_decide_eq_true (by kernel_rfl)) k0 bel lt0) (shut_int Try.underlying3 w1)), rfl, bel.frame _, fun h => by cases h⟩

theorem cut_over : Rows.fnCommittedOfCutsAtAnyPlaceRow.holds Try.pinned (OpenSpec.ofChange Rows.fnCommittedOfCutsAtAnyPlaceSpec) :=
  OpenClaim.holds_of_wide 3 Try.f3 rfl rfl rfl rfl rfl rfl rfl ⟨rfl, rfl, rfl, rfl, rfl⟩ rfl rfl rfl rfl rfl (by kernel_rfl) Try.func3 (by kernel_rfl)
    (of_decide_eq_true (by kernel_rfl)) (by unfold Func.isWrapper; first | (rw [if_pos (by decide +kernel)]; kernel_rfl) | (rw [if_neg (by decide +kernel)]; exact ⟨rfl, rfl⟩))
    (fun os started H enc _ => cut_lifted os started H enc)

theorem cut_proved : Rows.FnCommittedOfCutsAtAnyPlaceSaid := cut_over

end Go.Proofs.Qxb6613118a
