import Derived.Test.Qxb6613118aInsMore
import Derived.Test.Qxb6613118aOpen
import Derived.ShutString
import Derived.ChangeOld
import Derived.Below
namespace Go.Proofs.Qxb6613118a
open Go.ChangeShapes Go.WideShapes Go.ChangeAt Go.RowKit

theorem Try.own2 : ownKnob Try.prog.godebug = none := by kernel_rfl
theorem Try.laidOut2 : laidOutB Try.prog = true := by kernel_rfl

set_option maxRecDepth 100000 in
theorem ins_lifted (os : Os) (started : os.Started) (H : Type) (enc : TypeId × Value → H) :
    ReturnsInHanded {} Try.checked os 4 .any (Rows.fnCommittedOfInsertAnywhereSpec.pre6 enc Try.prog Try.f4 Rows.fnCommittedOfInsertAnywhereRow.domain false) (Rows.fnCommittedOfInsertAnywhereSpec.post enc Try.prog Try.f4 false true false false) := by
  refine returnsInHanded_of_change (C := Try.checked) Try.own2 started (by kernel_rfl) Try.func4
    (ChangeSpec.witness6 (enc := enc) (C := Try.checked) false ⟨#[], #[.slice none 0 0, .int .i64 0, .agg #[.int .u64 0, .int .u64 0, .string ⟨#[]⟩, .slice none 0 0]], []⟩ 8 (by kernel_rfl) (by kernel_rfl) (by kernel_rfl) (by kernel_rfl)) ?_
  intro W base args ds gs before hval0 hW hcnd _
  have hval : ∀ (j : Nat) t v, Try.f4.params[j]? = some t → args[j]? = some v → Value.okWide Try.prog W .any base t v := hval0
  have hW' := hW
  obtain ⟨p, q, hA0, hV, rfl, hfz, hnd⟩ := hW
  have hA : DataW.TrodAll enc Try.prog W 0 (fun _ => true) true Try.f4.params.toList args.toList ds p := hA0
  rw [Try.params4] at hA hval
  obtain ⟨v0, vs0, d0, ds0, p0, q0, hargs, rfl, rfl, h0, r0⟩ := trodAll_cons hA
  obtain ⟨v1, vs1, d1, ds1, p1, q1, rfl, rfl, rfl, h1, r1⟩ := trodAll_cons r0
  obtain ⟨v2, vs2, d2, ds2, p2, q2, rfl, rfl, rfl, h2, r2⟩ := trodAll_cons r1
  obtain ⟨rfl, rfl, rfl⟩ := trodAll_nil r2
  obtain rfl : args = #[v0, v1, v2] := by cases args; simp_all
  obtain ⟨rfl, rfl⟩ := trodVars_none hV
  obtain ⟨a0, len0, cap0, rfl⟩ := okWide_slice Try.underlying22 (hval 0 22 v0 rfl rfl)
  have k0 := h0
  have lt0 : ∀ x ∈ p0, x.block < W.heap.size := by obtain ⟨m, hm⟩ := k0; exact DataW.trod_lt m _ _ _ hm
  obtain ⟨R, hL, hn0, hlc, hlm⟩ := open_commits h0
  obtain ⟨a1, rfl, rfl, rfl, w1⟩ := open_int Try.underlying3 (hval 1 3 v1 rfl rfl) h1
  have k2 := h2
  have lt2 : ∀ x ∈ p2, x.block < W.heap.size := by obtain ⟨m, hm⟩ := k2; exact DataW.trod_lt m _ _ _ hm
  obtain ⟨x, hx, hxk, hxm⟩ : ∃ x : Com, v2 = .agg #[.int .u64 x.s, .int .u64 x.c, .string x.p, .slice x.a x.n x.m] ∧ KeysAt W x.a x.n ∧ x.n ≤ maxLen := by
    obtain ⟨cs, rfl, hsz⟩ := okWide_struct Try.underlying34 (hval 2 34 v2 rfl rfl)
    obtain ⟨fuel, hf⟩ := h2
    obtain ⟨x, hcs, hk, hm⟩ := open_commit hf
    refine ⟨x, ?_, hk, hm⟩
    simp only [Value.cells] at hcs
    congr 1
    exact Array.toList_inj.1 hcs
  subst hx
  clear hA0 hval0
  refine (ins_any a0 len0 cap0 a1 x.s x.c x.p x.a x.n x.m hn0 R hlm W hL hxk hxm).mono fun e W' ⟨he, bel⟩ => ?_
  subst he
  exact ⟨_, rfl, _, _, _, [], _, [], hW', trodAll_mk1 (shut_bool Try.underlying4 _), (trodAll_mk3 (Below.trod Try.laidOut2 (by kernel_rfl) (of_decide_eq_true (by kernel_rfl)) k0 bel lt0) (shut_int Try.underlying3 w1) (Below.trod Try.laidOut2 (by kernel_rfl) (of_decide_eq_true (by kernel_rfl)) k2 bel lt2)), rfl, bel.frame _, fun h => by cases h⟩

theorem ins_over : Rows.fnCommittedOfInsertAnywhereRow.holds Try.pinned (OpenSpec.ofChange Rows.fnCommittedOfInsertAnywhereSpec) :=
  OpenClaim.holds_of_wide 4 Try.f4 rfl rfl rfl rfl rfl rfl rfl ⟨rfl, rfl, rfl, rfl, rfl⟩ rfl rfl rfl rfl rfl (by kernel_rfl) Try.func4 (by kernel_rfl)
    (of_decide_eq_true (by kernel_rfl)) (by unfold Func.isWrapper; first | (rw [if_pos (by decide +kernel)]; kernel_rfl) | (rw [if_neg (by decide +kernel)]; exact ⟨rfl, rfl⟩))
    (fun os started H enc _ => ins_lifted os started H enc)

theorem ins_proved : Rows.FnCommittedOfInsertAnywhereSaid := ins_over

end Go.Proofs.Qxb6613118a
