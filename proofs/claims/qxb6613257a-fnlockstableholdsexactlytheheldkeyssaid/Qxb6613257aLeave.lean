import Derived.Test.Qxb6613257aLeaf
namespace Go.Proofs.Qxb6613257a
open Go.RowKit

/-- two blocks that hold different things are two blocks -/
theorem ne_of {w : World} {i j : Nat} {o o' : Obj} (hi : w.heap[i]? = some o) (hj : w.heap[j]? = some o') (h : o ≠ o') : i ≠ j := by
  rintro rfl
  rw [hi] at hj
  exact h (Option.some.inj hj)

theorem cell_of {w : World} {i j : Nat} {c : Array Value} {t : TypeId} {v : Value} (h : w.heap[i]? = some (.cells c t)) (hv : c[j]? = some v) : w.cell? ⟨i, j, none⟩ = some v := by simp [World.cell?, h, hv]
theorem frozen_of {w : World} {i : Nat} {c : Array Value} {t : TypeId} (h : w.heap[i]? = some (.cells c t)) (j : Nat) : w.frozen? ⟨i, j, none⟩ = false := by simp [World.frozen?, h]

theorem heap_set {w : World} {i j : Nat} {c : Array Value} {t : TypeId} (v : Value) (h : w.heap[i]? = some (.cells c t)) : (w.setCell ⟨i, j, none⟩ v).heap[i]? = some (.cells (c.setIfInBounds j v) t) := by
  simp [World.setCell, Array.getElem?_modify, h]

/-- all but the listed blocks are as they were -/
structure Only (S : List Nat) (w w' : World) : Prop where
  os : w'.os = w.os
  tape : w'.tape = w.tape
  output : w'.output = w.output
  size : w.heap.size ≤ w'.heap.size
  block : ∀ i, i < w.heap.size → i ∉ S → w'.heap[i]? = w.heap[i]?

theorem Only.refl (S : List Nat) (w : World) : Only S w w := ⟨rfl, rfl, rfl, Nat.le_refl _, fun _ _ _ => rfl⟩
theorem Only.trans {S : List Nat} {a b c : World} (h : Only S a b) (k : Only S b c) : Only S a c :=
  ⟨k.os.trans h.os, k.tape.trans h.tape, k.output.trans h.output, Nat.le_trans h.size k.size, fun i hi hS => (k.block i (Nat.lt_of_lt_of_le hi h.size) hS).trans (h.block i hi hS)⟩
theorem Only.drew {S : List Nat} {a w : World} (h : Only S a w) : Only S a w.drew := ⟨h.os, h.tape, h.output, h.size, h.block⟩
theorem Only.alloc {S : List Nat} {a w : World} (h : Only S a w) (o : Obj) : Only S a (w.alloc o) := h.trans ⟨rfl, rfl, rfl, by simp, fun k hk _ => Below.heap_alloc _ _ _ hk⟩
theorem Only.setCell {S : List Nat} {a w : World} (h : Only S a w) {p : Addr} (hp : p.block ∈ S) (u : Value) : Only S a (w.setCell p u) :=
  h.trans ⟨rfl, rfl, rfl, by simp [World.setCell], fun k _ hS => Below.heap_setCell _ _ _ _ (fun e => hS (e ▸ hp))⟩
theorem Only.setNew {S : List Nat} {a w : World} (h : Only S a w) {p : Addr} (hp : a.heap.size ≤ p.block) (u : Value) : Only S a (w.setCell p u) :=
  ⟨h.os, h.tape, h.output, by simpa [World.setCell] using h.size, fun k hk hS => (Below.heap_setCell _ _ _ _ (by omega)).trans (h.block k hk hS)⟩
theorem Only.setBlock {S : List Nat} {a w : World} (h : Only S a w) {i : Nat} (hp : i ∈ S) (o : Obj) : Only S a (putB w i o) :=
  h.trans ⟨rfl, rfl, rfl, by simp [putB], fun k _ hS => by
    have : i ≠ k := fun e => hS (e ▸ hp)
    simp [putB, Array.getElem?_setIfInBounds_ne this]⟩
theorem Only.setBlockNew {S : List Nat} {a w : World} (h : Only S a w) {i : Nat} (hp : a.heap.size ≤ i) (o : Obj) : Only S a (putB w i o) :=
  ⟨h.os, h.tape, h.output, by simpa [putB] using h.size, fun k hk hS => by
    have : i ≠ k := by omega
    simpa [putB, Array.getElem?_setIfInBounds_ne this] using h.block k hk hS⟩
theorem Only.mono {S T : List Nat} {a w : World} (h : Only S a w) (hT : ∀ i ∈ S, i < a.heap.size → i ∈ T) : Only T a w := ⟨h.os, h.tape, h.output, h.size, fun i hi hS => h.block i hi (fun hh => hS (hT i hh hi))⟩
theorem Only.get {S : List Nat} {a w : World} (h : Only S a w) {i : Nat} {o : Obj} (hi : a.heap[i]? = some o) (hS : i ∉ S) : w.heap[i]? = some o := by
  rw [h.block i (by obtain ⟨hlt, _⟩ := Array.getElem?_eq_some_iff.1 hi; exact hlt) hS]; exact hi

theorem heap_put {w : World} {i : Nat} {o : Obj} (o' : Obj) (h : w.heap[i]? = some o) : (putB w i o').heap[i]? = some o' := by
  obtain ⟨hlt, _⟩ := Array.getElem?_eq_some_iff.1 h
  simp [putB, hlt]
theorem heap_put_ne {w : World} {i j : Nat} (o' : Obj) (h : j ≠ i) : (putB w i o').heap[j]? = w.heap[j]? := by
  simp [putB, Array.getElem?_setIfInBounds_ne (Ne.symm h)]

set_option maxHeartbeats 1000000 in
theorem leave {w : World} {L M c b : Nat} {k : ByteArray} {l r : List Ent} {es : Array MapEntry} (hL : LocksAt w L M 0) (hM : w.heap[M]? = some (.map es c)) (ht : Tab es.toList (l ++ ⟨k, b⟩ :: r)) (hk : ∀ e ∈ l, e.key.toList ≠ k.toList)
    (e0 : w.heap[b]? = some (.cells #[.pointer (some ⟨L, 0, none⟩)] 24)) (e1 : w.heap[b + 1]? = some (.cells #[.string k] 9)) (e2 : w.heap[b + 2]? = some (.cells #[.pointer (some ⟨b + 4, 0, none⟩)] 47))
    (e4 : w.heap[b + 4]? = some (.cells #[.chan (some (b + 3)), .int .i64 1] 56)) :
    Calls Try.prog 15 #[.pointer (some ⟨b, 0, none⟩), .pointer (some ⟨b + 2, 0, none⟩), .pointer (some ⟨b + 1, 0, none⟩)] w fun e w' => e = .returned (.tuple #[]) ∧
      w'.heap[M]? = some (.map (es.eraseIdxIfInBounds l.length) c) ∧ Only [M, b + 4] w w' := by
  have nLM : L ≠ M := ne_of hL hM (by simp)
  have nL0 : L ≠ b := ne_of hL e0 (by simp)
  have nL1 : L ≠ b + 1 := ne_of hL e1 (by simp)
  have nL2 : L ≠ b + 2 := ne_of hL e2 (by simp)
  have nL4 : L ≠ b + 4 := ne_of hL e4 (by simp)
  have nM4 : M ≠ b + 4 := ne_of hM e4 (by simp)
  have HT := hide ht
  have HK := hide hk
  have H := hide (And.intro hL (And.intro hM (And.intro e0 (And.intro e1 (And.intro e2 e4)))))
  have N := hide (And.intro nLM (And.intro nL0 (And.intro nL1 (And.intro nL2 (And.intro nL4 nM4)))))
  have x0 := cell_of e0 (j := 0) rfl
  have l0 := hL.c0
  have lf := hL.f 0
  clear ht hk hL hM e0 e1 e2 e4 nLM nL0 nL1 nL2 nL4 nM4
  go_enter Try.func15, Try.ntmps15
  go_wp2_with fail
  refine (mlock ⟨L, 0, none⟩ w l0 lf).mono ?_
  rintro e w1 ⟨rfl, hw1⟩
  clear x0 l0 lf
  obtain ⟨hL, hM, e0, e1, e2, e4⟩ := H.out
  obtain ⟨nLM, nL0, nL1, nL2, nL4, nM4⟩ := N.out
  have hL' : LocksAt w1 L M 1 := by rw [hw1]; exact heap_set _ hL
  have keep : ∀ {i : Nat} {o : Obj}, L ≠ i → w.heap[i]? = some o → w1.heap[i]? = some o := by
    intro i o hi ho
    rw [hw1, Below.heap_setCell _ _ _ _ (fun e => hi e.symm)]; exact ho
  have H1 := hide (And.intro hL' (And.intro (keep nLM hM) (And.intro (keep nL0 e0) (And.intro (keep nL1 e1) (And.intro (keep nL2 e2) (keep nL4 e4))))))
  have HW1 := hide hw1
  clear hL hM e0 e1 e2 e4 hL' keep hw1
  have x2 := cell_of H1.out.2.2.2.2.1 (j := 0) rfl
  have x4 := cell_of H1.out.2.2.2.2.2 (j := 1) rfl
  have f4 := frozen_of H1.out.2.2.2.2.2 1
  clear nLM nL0 nL1 nL2 nL4 nM4
  go_wp2_with fail
  clear x2 x4 f4
  generalize hw2 : w1.setCell ⟨b + 4, 1, none⟩ (.int .i64 0) = w2
  obtain ⟨hL, hM, e0, e1, e2, e4⟩ := H1.out
  obtain ⟨nLM, nL0, nL1, nL2, nL4, nM4⟩ := N.out
  have keep : ∀ {i : Nat} {o : Obj}, b + 4 ≠ i → w1.heap[i]? = some o → w2.heap[i]? = some o := by
    intro i o hi ho
    rw [← hw2, Below.heap_setCell _ _ _ _ (fun e => hi e.symm)]; exact ho
  have H2 := hide (And.intro (show LocksAt w2 L M 1 from keep nL4.symm hL) (And.intro (keep nM4.symm hM) (And.intro (keep (by omega) e0) (keep (i := b + 1) (by omega) e1))))
  have HW2 := hide hw2
  clear hL hM e0 e1 e2 e4 keep hw2 nLM nL0 nL1 nL2 nL4 nM4
  have x0 : w2.cell? ⟨b, 0, none⟩ = some (.pointer (some ⟨L, 0, none⟩)) := cell_of H2.out.2.2.1 rfl
  have x1 : w2.cell? ⟨b + 1, 0, none⟩ = some (.string k) := cell_of H2.out.2.2.2 rfl
  have l2 := H2.out.1.c2
  have hd := delete_some (w := w2.drew) H2.out.2.1 HT.out HK.out
  go_region
  clear x0 x1 l2 hd
  generalize hw3 : putB w2.drew M (.map (es.eraseIdxIfInBounds l.length) c) = w3
  obtain ⟨hL, hM, e0, e1⟩ := H2.out
  obtain ⟨nLM, nL0, nL1, nL2, nL4, nM4⟩ := N.out
  have hL3 : LocksAt w3 L M 1 := by rw [← hw3]; exact (heap_put_ne _ nLM).trans hL
  have x0 : w3.cell? ⟨b, 0, none⟩ = some (.pointer (some ⟨L, 0, none⟩)) := cell_of (by rw [← hw3, heap_put_ne _ (ne_of e0 hM (by simp))]; exact e0) rfl
  have hM3 : w3.heap[M]? = some (.map (es.eraseIdxIfInBounds l.length) c) := by rw [← hw3]; exact heap_put (w := w2.drew) _ hM
  have O3 := hide (show Only [L, M, b + 4] w w3 from by
    rw [← hw3, ← HW2.out, HW1.out]
    exact (((((Only.refl _ w).setCell (by simp) _).setCell (by simp) _).drew).setBlock (by simp) _))
  have HM3 := hide hM3
  have HL3 := hide hL3
  have HH := hide hL
  clear hM3 hL hM e0 e1 hw3 nLM nL0 nL1 nL2 nL4 nM4 hL3
  have l0 := HL3.out.c0
  have lf := HL3.out.f 0
  go_wp2_with fail
  refine (munlock ⟨L, 0, none⟩ w3 l0 lf).mono ?_
  rintro e w4 ⟨rfl, rfl⟩
  go_wp2
  go_end0
  obtain ⟨nLM, nL0, nL1, nL2, nL4, nM4⟩ := N.out
  refine ⟨rfl, ?_, ?_⟩
  · rw [Below.heap_setCell _ _ _ _ nLM.symm]; exact HM3.out
  · have O4 : Only [L, M, b + 4] w (w3.setCell ⟨L, 0, none⟩ (.int .i32 0)) := O3.out.setCell (by simp) _
    refine ⟨O4.os, O4.tape, O4.output, O4.size, fun i hi hS => ?_⟩
    by_cases hiL : i = L
    · subst hiL
      rw [heap_set _ HL3.out]; exact H.out.1.symm
    · exact O4.block i hi (by simp at hS ⊢; exact ⟨hiL, hS⟩)

theorem chan_get {w : World} {c cap s r : Nat} {buf : Array Value} {cl tm : Bool} (h : w.heap[c]? = some (.chan cap buf cl s r tm)) (cap' s' r' : Nat) (buf' : Array Value) (cl' tm' : Bool) : (w.setChan c cap' buf' cl' s' r' tm').heap[c]? = some (.chan cap' buf' cl' s' r' tm') := by
  obtain ⟨hlt, _⟩ := Array.getElem?_eq_some_iff.1 h
  simp [World.setChan, hlt]
theorem chan_ne (w : World) {c i : Nat} (h : i ≠ c) (cap' s' r' : Nat) (buf' : Array Value) (cl' tm' : Bool) : (w.setChan c cap' buf' cl' s' r' tm').heap[i]? = w.heap[i]? := by
  simp [World.setChan, Array.getElem?_setIfInBounds_ne (Ne.symm h)]
theorem Only.setChan {S : List Nat} {a w : World} (h : Only S a w) {i : Nat} (hp : i ∈ S) (cap' s' r' : Nat) (buf' : Array Value) (cl' tm' : Bool) : Only S a (w.setChan i cap' buf' cl' s' r' tm') := h.setBlock hp _
theorem Only.setChanNew {S : List Nat} {a w : World} (h : Only S a w) {i : Nat} (hp : a.heap.size ≤ i) (cap' s' r' : Nat) (buf' : Array Value) (cl' tm' : Bool) : Only S a (w.setChan i cap' buf' cl' s' r' tm') := h.setBlockNew hp _

/-- the six blocks of a key that is held -/
structure EntAt (w : World) (L : Nat) (e : Ent) : Prop where
  e0 : w.heap[e.b]? = some (.cells #[.pointer (some ⟨L, 0, none⟩)] 24)
  e1 : w.heap[e.b + 1]? = some (.cells #[.string e.key] 9)
  e2 : w.heap[e.b + 2]? = some (.cells #[.pointer (some ⟨e.b + 4, 0, none⟩)] 47)
  e3 : w.heap[e.b + 3]? = some (.chan 1 #[.agg #[]] false 1 0 false)
  e4 : w.heap[e.b + 4]? = some (.cells #[.chan (some (e.b + 3)), .int .i64 1] 56)
  e5 : w.heap[e.b + 5]? = some (.cells #[.func (.func 15) #[] #[.pointer (some ⟨e.b, 0, none⟩), .pointer (some ⟨e.b + 2, 0, none⟩), .pointer (some ⟨e.b + 1, 0, none⟩)]] 1)

/-- the function that 'lock' hands back for it -/
def Ent.free (e : Ent) : Value := .func (.func 16) #[] #[.pointer (some ⟨e.b + 2, 0, none⟩), .pointer (some ⟨e.b + 5, 0, none⟩)]

set_option maxHeartbeats 1000000 in
theorem free {w : World} {L M c : Nat} {e : Ent} {l r : List Ent} {es : Array MapEntry} (hL : LocksAt w L M 0) (hM : w.heap[M]? = some (.map es c)) (ht : Tab es.toList (l ++ e :: r)) (hk : ∀ x ∈ l, x.key.toList ≠ e.key.toList) (he : EntAt w L e) :
    Calls Try.prog 16 #[.pointer (some ⟨e.b + 2, 0, none⟩), .pointer (some ⟨e.b + 5, 0, none⟩)] w fun x w' => x = .returned (.tuple #[]) ∧
      w'.heap[M]? = some (.map (es.eraseIdxIfInBounds l.length) c) ∧ Only [M, e.b + 3, e.b + 4] w w' := by
  obtain ⟨k, b⟩ := e
  have H := hide he
  have H' := hide (And.intro hL (And.intro hM (And.intro ht hk)))
  obtain ⟨e0, e1, e2, e3, e4, e5⟩ := he
  dsimp only at e0 e1 e2 e3 e4 e5
  have x2 : w.cell? ⟨b + 2, 0, none⟩ = some (.pointer (some ⟨b + 4, 0, none⟩)) := cell_of e2 (by rfl)
  have x4 : w.cell? ⟨b + 4, 0, none⟩ = some (.chan (some (b + 3))) := cell_of e4 (by rfl)
  have h3 := hide e3
  clear e0 e1 e2 e3 e4 e5 hL hM ht hk
  go_enter Try.func16, Try.ntmps16
  refine wp_seq_k fun K hK => wp_inReg ?_
  simp only [List.size_toArray, List.length_cons, List.length_nil, Nat.reduceAdd, Nat.zero_add, List.range, List.range.loop]
  refine inReg_value (i := 0) rfl rfl (v := .pointer (some ⟨b + 4, 0, none⟩)) (w' := w) (by go_simp) ?_
  refine inReg_value (i := 1) rfl rfl (v := .pointer (some ⟨b + 4, 0, none⟩)) (w' := w) (by go_simp) ?_
  refine inReg_value (i := 2) rfl rfl (v := .pointer (some ⟨b + 4, 0, none⟩)) (w' := w) (by go_simp) ?_
  refine inReg_value (i := 3) rfl rfl (v := .chan (some (b + 3))) (w' := w) (by go_simp) ?_
  refine inReg_recv (i := 4) (c := b + 3) (z := .agg #[]) rfl rfl ?_ h3.out (by simp) ?_
  · simp [execOp, Conc.rcase, Act.eval, Act.put, go_sem]
  refine inReg_rest (hK _ _ ?_)
  change Code.wp _ _ _ ⟨#[.pointer (some ⟨b + 2, 0, none⟩), .pointer (some ⟨b + 5, 0, none⟩), .pointer (some ⟨b + 4, 0, none⟩), .pointer (some ⟨b + 4, 0, none⟩), .pointer (some ⟨b + 4, 0, none⟩), .chan (some (b + 3)), .agg #[], undef, undef], []⟩ _
  clear x2 x4 hK K
  generalize hw1 : w.setChan (b + 3) 1 _ false 1 _ false = w1
  obtain ⟨hL, hM, ht, hk⟩ := H'.out
  obtain ⟨e0, e1, e2, e3, e4, e5⟩ := H.out
  dsimp only at e0 e1 e2 e3 e4 e5
  have O1 : Only [b + 3] w w1 := by rw [← hw1]; exact (Only.refl _ w).setChan (by simp) _ _ _ _ _ _
  have y5 : w1.cell? ⟨b + 5, 0, none⟩ = some (.func (.func 15) #[] #[.pointer (some ⟨b, 0, none⟩), .pointer (some ⟨b + 2, 0, none⟩), .pointer (some ⟨b + 1, 0, none⟩)]) := cell_of (O1.get e5 (by simp)) (by rfl)
  have nL : L ∉ [b + 3] := by simpa using ne_of hL e3 (by simp)
  have nM : M ∉ [b + 3] := by simpa using ne_of hM e3 (by simp)
  have HC := hide (leave (w := w1) (L := L) (O1.get hL nL) (O1.get hM nM) ht hk (O1.get e0 (by simp)) (O1.get e1 (by simp)) (O1.get e2 (by simp)) (O1.get e4 (by simp)))
  have HO := hide O1
  clear hL hM ht hk e0 e1 e2 e3 e4 e5 O1 nL nM hw1
  go_wp2_with fail
  refine HC.out.mono ?_
  rintro e w2 ⟨rfl, hM2, hO2⟩
  have HM2 := hide hM2
  have HO2 := hide hO2
  clear hM2 hO2
  go_wp2
  go_end0
  refine ⟨rfl, HM2.out, (HO.out.mono ?_).trans (HO2.out.mono ?_)⟩
  · intro i hi _; simp at hi ⊢; omega
  · intro i hi _; simp at hi ⊢; omega

set_option maxHeartbeats 1000000 in
theorem unlockZ {w : World} {L M c : Nat} {e : Ent} {l r : List Ent} {es : Array MapEntry} (hL : LocksAt w L M 0) (hM : w.heap[M]? = some (.map es c)) (ht : Tab es.toList (l ++ e :: r)) (hk : ∀ x ∈ l, x.key.toList ≠ e.key.toList) (he : EntAt w L e) :
    Calls Try.prog 6 #[.agg #[e.free]] w fun x w' => x = .returned (.tuple #[]) ∧
      w'.heap[M]? = some (.map (es.eraseIdxIfInBounds l.length) c) ∧ Only [M, e.b + 3, e.b + 4] w w' := by
  have O1 : Only [] w (w.alloc (.cells #[e.free] 29)) := (Only.refl _ w).alloc _
  have HC := hide (free (L := L) (O1.get hL (by simp)) (O1.get hM (by simp)) ht hk ⟨O1.get he.e0 (by simp), O1.get he.e1 (by simp), O1.get he.e2 (by simp), O1.get he.e3 (by simp), O1.get he.e4 (by simp), O1.get he.e5 (by simp)⟩)
  have HO := hide O1
  clear hL hM ht hk he O1
  unfold Ent.free at *
  go_enter Try.func6, Try.ntmps6
  go_wp2_with fail
  refine HC.out.mono ?_
  rintro x w2 ⟨rfl, hM2, hO2⟩
  have HM2 := hide hM2
  have HO2 := hide hO2
  clear hM2 hO2
  go_wp2
  go_end0
  refine ⟨rfl, HM2.out, (HO.out.mono ?_).trans (HO2.out.mono ?_)⟩
  · intro i hi _; simp at hi
  · intro i hi _; exact hi
end Go.Proofs.Qxb6613257a
