import Derived.Test.Qxb6613257aMain
import Derived.ProofKit
import Derived.Deep.Strs
import Derived.ShutString
import Derived.ChangeOld
namespace Go.Proofs.Qxb6613257a
open Go.ChangeShapes Go.WideShapes Go.ChangeAt Go.RowKit

theorem Try.cells9 : Try.prog.cellsOf 9 = 1 := by kernel_rfl

theorem lt_of_cell {w : World} {a : Addr} {v : Value} (h : w.cell? a = some v) : a.block < w.heap.size := by
  by_cases hb : a.block < w.heap.size
  · exact hb
  · have e : w.heap[a.block]? = none := by simp; omega
    simp [World.cell?, e] at h

set_option maxRecDepth 100000 in
set_option maxHeartbeats 1000000 in
theorem many (ao : Option Addr) (n c : Nat) (K : Nat → ByteArray) (w : World) (hn : 4096 < n) (hc : KeysAt w ao n K) :
    Calls Try.prog 3 #[.slice ao n c] w fun e w' => e = .returned (.bool true) ∧ Below w.heap.size w w' := by
  have HC := hide hc
  clear hc
  have hd1 : decide ((4096 : Int) < (n : Int)) = true := decide_eq_true (by omega)
  go_enter Try.func3, Try.ntmps3
  go_wp2_with fail
  refine (bytes_any ao n c K w HC.out).mono ?_
  rintro e w' ⟨⟨r, rfl⟩, rfl⟩
  cases r
  · go_wp2
    go_ret
    exact ⟨rfl, Below.refl _ _⟩
  go_wp2
  go_ret
  exact ⟨rfl, Below.refl _ _⟩

/-- the law: whatever the keys, it answers true, and nothing that was there has turned -/
theorem law_any (ao : Option Addr) (n c : Nat) (K : Nat → ByteArray) (w : World) (hc : KeysAt w ao n K) :
    Calls Try.prog 3 #[.slice ao n c] w fun e w' => e = .returned (.bool true) ∧ Below w.heap.size w w' := by
  by_cases hn : n ≤ 4096
  · exact main ao n c K w hn hc
  · exact many ao n c K w (by omega) hc

theorem open_keys {H : Type} {enc : TypeId × Value → H} {w : World} {base : Nat} {held : Bool} {ao : Option Addr} {len cap : Nat} {d : DataW H} {p : List MemPlace}
    (h : DataW.Trod enc Try.prog w base (fun _ => true) held 22 (.slice ao len cap) d p) : ∃ K, KeysAt w ao len K := by
  obtain ⟨fuel, hf⟩ := h
  rcases Deep.open_slice Try.underlying22 hf with ⟨hcs, _⟩ | ⟨a, l, c, m, n, D, Pl, hcs, _, hl, hm, hmm, _, hx⟩
  · simp [Value.cells] at hcs
    obtain ⟨rfl, rfl, rfl⟩ := hcs
    exact ⟨fun _ => ⟨#[]⟩, fun j hj => absurd hj (Nat.not_lt_zero _)⟩
  · simp [Value.cells] at hcs
    obtain ⟨rfl, rfl, rfl⟩ := hcs
    simp only [if_true] at hmm
    subst hmm
    rw [Try.cells9] at hx
    obtain ⟨K, hK⟩ := Deep.choose_lt (α := ByteArray) (p := fun i s => w.cell? ((a.add (i * 1)).add 0) = some (.string s)) (n := m) (fun i hi => by
      obtain ⟨cs', h1, h2⟩ := hx i hi
      obtain ⟨_, hlen, hcell⟩ := World.cells?_some h1
      obtain ⟨s, e, _, _⟩ := DataW.trod_string Try.underlying9 h2
      subst e
      exact ⟨s, hcell 0 (by omega)⟩)
    refine ⟨K, fun j hj => ?_⟩
    have hj' := hK j (by omega)
    have h0' := hK 0 (by omega)
    have hsp := World.cell?_spot h0'
    have hlt : a.block < w.heap.size := by simpa [Addr.add] using lt_of_cell h0'
    obtain ⟨b, off, spot⟩ := a
    simp [Addr.add] at hsp
    subst hsp
    exact ⟨b, off, rfl, hlt, by simpa [add_plain] using hj'⟩

theorem Try.own : ownKnob Try.prog.godebug = none := by kernel_rfl
theorem Try.laidOut : laidOutB Try.prog = true := by kernel_rfl

set_option maxRecDepth 100000 in
theorem law_lifted (os : Os) (started : os.Started) (H : Type) (enc : TypeId × Value → H) :
    ReturnsInHanded {} Try.checked os 3 .any (Rows.fnLocksTableHoldsExactlyTheHeldKeysSpec.pre6 enc Try.prog Try.f3 Rows.fnLocksTableHoldsExactlyTheHeldKeysRow.domain false) (Rows.fnLocksTableHoldsExactlyTheHeldKeysSpec.post enc Try.prog Try.f3 false true false false) := by
  refine returnsInHanded_of_change (C := Try.checked) Try.own started (by kernel_rfl) Try.func3
    (ChangeSpec.witness6 (enc := enc) (C := Try.checked) false ⟨#[], #[.slice none 0 0], []⟩ 8 (by kernel_rfl) (by kernel_rfl) (by kernel_rfl) (by kernel_rfl)) ?_
  intro W base args ds gs before hval0 hW hcnd _
  have hval : ∀ (j : Nat) t v, Try.f3.params[j]? = some t → args[j]? = some v → Value.okWide Try.prog W .any base t v := hval0
  have hW' := hW
  obtain ⟨p, q, hA0, hV, rfl, hfz, hnd⟩ := hW
  have hA : DataW.TrodAll enc Try.prog W 0 (fun _ => true) true Try.f3.params.toList args.toList ds p := hA0
  rw [Try.params3] at hA hval
  obtain ⟨v0, vs0, d0, ds0, p0, q0, hargs, rfl, rfl, h0, r0⟩ := trodAll_cons hA
  obtain ⟨rfl, rfl, rfl⟩ := trodAll_nil r0
  obtain rfl : args = #[v0] := by cases args; simp_all
  obtain ⟨rfl, rfl⟩ := trodVars_none hV
  obtain ⟨a0, len0, cap0, rfl⟩ := okWide_slice Try.underlying22 (hval 0 22 v0 rfl rfl)
  have k0 := h0
  have lt0 : ∀ x ∈ p0, x.block < W.heap.size := by obtain ⟨m, hm⟩ := k0; exact DataW.trod_lt m _ _ _ hm
  obtain ⟨K, hK⟩ := open_keys h0
  clear hA0 hval0
  refine (law_any a0 len0 cap0 K W hK).mono fun e W' ⟨he, bel⟩ => ?_
  subst he
  exact ⟨_, rfl, _, _, _, [], _, [], hW', trodAll_mk1 (shut_bool Try.underlying4 _), trodAll_mk1 (Below.trod Try.laidOut (by kernel_rfl) (of_decide_eq_true (by kernel_rfl)) k0 bel lt0), rfl, bel.frame _, fun h => by cases h⟩

theorem law_over : Rows.fnLocksTableHoldsExactlyTheHeldKeysRow.holds Try.pinned (OpenSpec.ofChange Rows.fnLocksTableHoldsExactlyTheHeldKeysSpec) :=
  OpenClaim.holds_of_wide 3 Try.f3 rfl rfl rfl rfl rfl rfl rfl ⟨rfl, rfl, rfl, rfl, rfl⟩ rfl rfl rfl rfl rfl (by kernel_rfl) Try.func3 (by kernel_rfl)
    (of_decide_eq_true (by kernel_rfl)) (by unfold Func.isWrapper; first | (rw [if_pos (by decide +kernel)]; kernel_rfl) | (rw [if_neg (by decide +kernel)]; exact ⟨rfl, rfl⟩))
    (fun os started H enc _ => law_lifted os started H enc)

theorem law_proved : Rows.FnLocksTableHoldsExactlyTheHeldKeysSaid := law_over

end Go.Proofs.Qxb6613257a
