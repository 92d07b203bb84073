import Derived.Test.Qxb6613257aInv
namespace Go.Proofs.Qxb6613257a
open Go.RowKit

/-- a row of the call's own: block g, room for cap cells, the first hold xs -/
def RowAt (w : World) (g e cap : Nat) (xs : List Value) : Prop :=
  ∃ cur : Array Value, w.heap[g]? = some (.cells cur e) ∧ cur.size = cap ∧ cur.toList.take xs.length = xs ∧ xs.length ≤ cap ∧ cap ≤ maxLen

theorem RowAt.owns {w : World} {g e cap : Nat} {xs : List Value} (h : RowAt w g e cap xs) (n : Nat) (hn : xs.length = n) : w.ownsRow g e 1 (.slice (some ⟨g, 0, none⟩) n cap) n xs := by
  obtain ⟨cur, h1, h2, h3, h4, h5⟩ := h
  subst hn
  exact ⟨by simp, .inr ⟨g, cap, cur, rfl, Nat.le_refl _, h1, h4, h5, by simpa using h2, by simpa using h3⟩⟩

theorem RowAt.of {w : World} {g e cap n : Nat} {xs : List Value} (h : w.ownsRow g e 1 (.slice (some ⟨g, 0, none⟩) n cap) n xs) : RowAt w g e cap xs := by
  obtain ⟨h0, h | ⟨g', cap', cur, hv, _, h1, h2, h3, h4, h5⟩⟩ := h
  · simp at h
  · simp at hv
    obtain ⟨rfl, rfl⟩ := hv
    simp at h0 h4 h5
    refine ⟨cur, h1, h4, by rw [h0]; exact h5, by omega, h3⟩

theorem RowAt.only {w w' : World} {g e cap : Nat} {xs : List Value} {S : List Nat} (h : RowAt w g e cap xs) (hO : Only S w w') (hS : g ∉ S) : RowAt w' g e cap xs := by
  obtain ⟨cur, h1, h2⟩ := h
  exact ⟨cur, hO.get h1 hS, h2⟩

theorem RowAt.cell {w : World} {g e cap : Nat} {xs : List Value} (h : RowAt w g e cap xs) {j : Nat} {v : Value} (hj : xs[j]? = some v) : w.cell? ⟨g, j, none⟩ = some v := by
  obtain ⟨cur, h1, h2, h3, h4, _⟩ := h
  have hlt : j < xs.length := (List.getElem?_eq_some_iff.1 hj).1
  refine cell_of h1 ?_
  rw [← hj, ← h3, List.getElem?_take, if_pos hlt]
  simp

theorem RowAt.frozen {w : World} {g e cap : Nat} {xs : List Value} (h : RowAt w g e cap xs) (j : Nat) : w.frozen? ⟨g, j, none⟩ = false := by
  obtain ⟨cur, h1, _⟩ := h
  exact frozen_of h1 j

theorem RowAt.set {w : World} {g e cap : Nat} {xs : List Value} (h : RowAt w g e cap xs) (j : Nat) (v : Value) : RowAt (w.setCell ⟨g, j, none⟩ v) g e cap (xs.set j v) := by
  obtain ⟨cur, h1, h2, h3, h4, h5⟩ := h
  refine ⟨cur.setIfInBounds j v, heap_set v h1, by simpa using h2, ?_, by simpa using h4, h5⟩
  rw [List.length_set, Array.toList_setIfInBounds, List.take_set, h3]

theorem RowAt.take {w : World} {g e cap : Nat} {xs : List Value} (h : RowAt w g e cap xs) (m : Nat) : RowAt w g e cap (xs.take m) := by
  obtain ⟨cur, h1, h2, h3, h4, h5⟩ := h
  refine ⟨cur, h1, h2, ?_, by rw [List.length_take]; omega, h5⟩
  rw [List.length_take, ← List.take_take, h3]

/-- the whole state behind some rounds: S is the heap's size at the call; the map lies at S, the locks at S + 1, the two rows at S + 2 and at D -/
structure St (w wr : World) (D N : Nat) (hs : List Ent) : Prop where
  hD : w.heap.size + 3 ≤ D
  inv : Inv wr (w.heap.size + 1) w.heap.size hs
  rk : RowAt wr (w.heap.size + 2) 9 N (hs.map fun e => .string e.key)
  rh : RowAt wr D 29 N (hs.map Ent.free)
  lo : ∀ e ∈ hs, D + 1 ≤ e.b
  bel : Below w.heap.size w wr

theorem Only.below {S : List Nat} {B : Nat} {w a b : World} (h : Only S a b) (hb : Below B w a) (hB : B ≤ a.heap.size) (hS : ∀ i ∈ S, B ≤ i) : Below B w b :=
  hb.trans ⟨h.os, h.tape, h.output, h.size, fun k hk => h.block k (by omega) (fun hh => by have := hS k hh; omega)⟩

theorem St.size {w wr : World} {D N : Nat} {hs : List Ent} (h : St w wr D N hs) : D + 1 ≤ wr.heap.size := by
  obtain ⟨cur, h1, _⟩ := h.rh
  have := lt_of h1
  omega

theorem Only.grown {w w' : World} (h : w.grownBy w' none) : Only [] w w' := ⟨h.os, h.tape, h.output, h.size, fun k hk _ => h.block k hk (by simp)⟩
theorem Only.grownAt {w w' : World} {g : Nat} (h : w.grownBy w' (some g)) : Only [g] w w' := ⟨h.os, h.tape, h.output, h.size, fun k hk hS => h.block k hk (by simpa using hS)⟩

theorem St.start {w w1 w2 w3 : World} {n : Nat} (h1 : Inv w1 (w.heap.size + 1) w.heap.size [] ∧ Only [] w w1) (h2 : RowAt w2 (w.heap.size + 2) 9 n []) (o2 : Only [] w1 w2) (h3 : RowAt w3 w2.heap.size 29 n []) (o3 : Only [] w2 w3) : St w w3 w2.heap.size n [] := by
  have hD : w.heap.size + 3 ≤ w2.heap.size := by
    obtain ⟨cur, hc, _⟩ := h2
    have := lt_of hc
    omega
  have o13 := o2.trans o3
  have o03 := h1.2.trans o13
  exact ⟨hD, h1.1.only o13 (by simp) (by simp) (by simp), h2.only o3 (by simp), h3, by simp, o03.below (Below.refl _ _) (Nat.le_refl _) (by simp)⟩

/-- what is left of the held keys when the one at p is freed: the last one takes its place -/
def swapOut (hs : List Ent) (p : Nat) : List Ent := ((hs.set p (hs.getD (hs.length - 1) ⟨⟨#[]⟩, 0⟩)).take (hs.length - 1))

theorem swapOut_length (hs : List Ent) (p : Nat) : (swapOut hs p).length = hs.length - 1 := by simp [swapOut]

theorem swapOut_perm {hs : List Ent} {p : Nat} {e : Ent} (h : hs[p]? = some e) : hs.Perm (e :: swapOut hs p) := by
  obtain ⟨hp, he⟩ := List.getElem?_eq_some_iff.1 h
  rcases List.eq_nil_or_concat hs with rfl | ⟨l, x, hlx⟩
  · simp at hp
  · obtain rfl : hs = l ++ [x] := by simpa using hlx
    clear hlx
    have hlen : (l ++ [x]).length - 1 = l.length := by simp
    have hlast : (l ++ [x]).getD ((l ++ [x]).length - 1) ⟨⟨#[]⟩, 0⟩ = x := by rw [hlen]; simp
    unfold swapOut
    rw [hlast, hlen]
    by_cases hpl : p < l.length
    · have h1 : (l ++ [x])[p] = l[p] := List.getElem_append_left hpl
      rw [h1] at he
      rw [List.set_append_left _ _ hpl, List.take_left' (by simp)]
      have h3 : l.set p x = l.take p ++ x :: l.drop (p + 1) := by rw [List.set_eq_take_append_cons_drop, if_pos hpl]
      have h4 : l ++ [x] = (l.take p ++ e :: l.drop (p + 1)) ++ [x] := by subst he; simp
      rw [h3, h4]
      refine List.Perm.trans (List.perm_append_comm (l₁ := l.take p ++ e :: l.drop (p + 1)) (l₂ := [x])) ?_
      refine List.Perm.trans (.cons x List.perm_middle) ?_
      refine List.Perm.trans (.swap e x _) ?_
      exact .cons e List.perm_middle.symm
    · have hpe : p = l.length := by simp at hp; omega
      subst hpe
      have : e = x := by rw [← he]; simp
      subst this
      rw [List.set_append_right _ _ (Nat.le_refl _), List.take_left' rfl]
      exact List.perm_append_comm (l₁ := l) (l₂ := [e])

theorem map_swapOut {α : Type} (f : Ent → α) {hs : List Ent} {p : Nat} {x : Ent} (h : hs[hs.length - 1]? = some x) : (((hs.map f).set p (f x)).take (hs.length - 1)) = (swapOut hs p).map f := by
  have hx : hs.getD (hs.length - 1) ⟨⟨#[]⟩, 0⟩ = x := by rw [List.getD_eq_getElem?_getD, h]; rfl
  unfold swapOut
  rw [hx, List.map_take, List.map_set]

theorem swapOut_mem {hs : List Ent} {p : Nat} {e : Ent} (h : hs[p]? = some e) {x : Ent} (hx : x ∈ swapOut hs p) : x ∈ hs := (swapOut_perm h).mem_iff.2 (List.mem_cons_of_mem _ hx)

theorem swapOut_apart {hs : List Ent} {p : Nat} {e : Ent} (h : hs[p]? = some e) (hk : hs.Pairwise Apart) : ∀ x ∈ swapOut hs p, x.key.toList ≠ e.key.toList := by
  have := pairwise_perm (swapOut_perm h).symm hk
  intro x hx
  exact Ne.symm ((List.pairwise_cons.1 this).1 x hx)

theorem swapOut_last (hs : List Ent) : swapOut hs (hs.length - 1) = hs.take (hs.length - 1) := by
  unfold swapOut
  rw [List.take_set, List.set_eq_of_length_le (by simp)]

/-- the key at q is freed: what is still true of the rows -/
theorem St.freed {w wr w1 : World} {D N : Nat} {hs : List Ent} {e : Ent} (h : St w wr D N hs) (he : e ∈ hs) (hO : Only [w.heap.size, e.b + 3, e.b + 4] wr w1) :
    RowAt w1 (w.heap.size + 2) 9 N (hs.map fun e => .string e.key) ∧ RowAt w1 D 29 N (hs.map Ent.free) ∧ Below w.heap.size w w1 := by
  have h1 := h.lo e he
  have h2 := h.hD
  have h3 := h.size
  refine ⟨h.rk.only hO (by simp; omega), h.rh.only hO (by simp; omega), hO.below h.bel (by omega) ?_⟩
  intro i hi
  simp at hi
  omega

theorem St.swapped {w wr w1 : World} {D N q : Nat} {hs : List Ent} {e x : Ent} (h : St w wr D N hs) (he : hs[q]? = some e) (hx : hs[hs.length - 1]? = some x) (hI : Inv w1 (w.heap.size + 1) w.heap.size (swapOut hs q)) (hO : Only [w.heap.size, e.b + 3, e.b + 4] wr w1) :
    St w ((w1.setCell ⟨w.heap.size + 2, q, none⟩ (.string x.key)).setCell ⟨D, q, none⟩ x.free) D N (swapOut hs q) := by
  have hem : e ∈ hs := List.mem_of_getElem? he
  obtain ⟨rk, rh, hb⟩ := h.freed hem hO
  have h2 := h.hD
  have h3 : D + 1 ≤ w1.heap.size := Nat.le_trans h.size hO.size
  have oo : Only [w.heap.size + 2, D] w1 ((w1.setCell ⟨w.heap.size + 2, q, none⟩ (.string x.key)).setCell ⟨D, q, none⟩ x.free) := ((Only.refl _ w1).setCell (by simp) _).setCell (by simp) _
  have lo : ∀ y ∈ swapOut hs q, D + 1 ≤ y.b := fun y hy => h.lo y (swapOut_mem he hy)
  refine ⟨h2, hI.only oo (by simp; omega) (by simp; omega) (fun y hy j _ => by have := lo y hy; simp; omega), ?_, ?_, lo, oo.below hb (by omega) (by intro i hi; simp at hi; omega)⟩
  · have hr := (rk.set q (.string x.key)).take (hs.length - 1)
    rw [map_swapOut (fun e => Value.string e.key) hx] at hr
    exact hr.only (S := [D]) ((Only.refl _ _).setCell (by simp) _) (by simp; omega)
  · have hr := ((rh.only (S := [w.heap.size + 2]) ((Only.refl _ w1).setCell (p := ⟨w.heap.size + 2, q, none⟩) (by simp) (.string x.key)) (by simp; omega)).set q x.free).take (hs.length - 1)
    rw [map_swapOut Ent.free hx] at hr
    exact hr

theorem St.popped {w wr w1 : World} {D N : Nat} {hs : List Ent} {e : Ent} (h : St w wr D N hs) (he : hs[hs.length - 1]? = some e) (hI : Inv w1 (w.heap.size + 1) w.heap.size (swapOut hs (hs.length - 1))) (hO : Only [w.heap.size, e.b + 3, e.b + 4] wr w1) :
    St w w1 D N (swapOut hs (hs.length - 1)) := by
  have hem : e ∈ hs := List.mem_of_getElem? he
  obtain ⟨rk, rh, hb⟩ := h.freed hem hO
  refine ⟨h.hD, hI, ?_, ?_, fun y hy => h.lo y (swapOut_mem he hy), hb⟩
  · rw [swapOut_last, List.map_take]; exact rk.take _
  · rw [swapOut_last, List.map_take]; exact rh.take _

theorem one_cell {w : World} {g t : Nat} {v : Value} (h : w.heap[g]? = some (.cells #[v] t)) : ∀ j u, ([v] : List Value)[j]? = some u → w.cell? ((⟨g, 0, none⟩ : Addr).add j) = some u := by
  intro j u hj
  cases j with
  | zero =>
    simp at hj
    subst hj
    exact cell_of h rfl
  | succ j => simp at hj

/-- a key is locked and laid at the end of both rows -/
theorem St.locked {w wr w1 w2 w4 w5 : World} {D N : Nat} {hs : List Ent} {k : ByteArray} (h : St w wr D N hs) (hI : Inv w1 (w.heap.size + 1) w.heap.size (hs ++ [⟨k, wr.heap.size + 1⟩]) ∧ Only [w.heap.size] wr w1) (o2 : Only [] w1 w2)
    (r4 : RowAt w4 (w.heap.size + 2) 9 N ((hs.map fun e => .string e.key) ++ [.string k])) (o4 : Only [w.heap.size + 2] w2 w4) (r5 : RowAt w5 D 29 N (hs.map Ent.free ++ [(⟨k, wr.heap.size + 1⟩ : Ent).free])) (o5 : Only [D] w4 w5) :
    St w w5 D N (hs ++ [⟨k, wr.heap.size + 1⟩]) := by
  have hD := h.hD
  have hsz := h.size
  have lo : ∀ y ∈ hs ++ [⟨k, wr.heap.size + 1⟩], D + 1 ≤ y.b := by
    intro y hy
    rcases List.mem_append.1 hy with hy | hy
    · exact h.lo y hy
    · simp at hy; subst hy; simp; omega
  have oo : Only [w.heap.size + 2, D] w1 w5 := ((o2.mono (by simp)).trans (o4.mono (by simp))).trans (o5.mono (by simp))
  have b1 : Below w.heap.size w w1 := hI.2.below h.bel (by omega) (by simp)
  refine ⟨hD, hI.1.only oo (by simp; omega) (by simp; omega) (fun y hy j _ => by have := lo y hy; simp; omega), ?_, ?_, lo, oo.below b1 (by have := hI.2.size; omega) (by intro i hi; simp at hi; omega)⟩
  · have := r4.only o5 (by simp; omega)
    simpa using this
  · simpa using r5
end Go.Proofs.Qxb6613257a
