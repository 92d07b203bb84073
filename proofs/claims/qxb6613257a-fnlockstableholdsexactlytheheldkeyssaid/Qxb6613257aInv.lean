import Derived.Test.Qxb6613257aZ
import Derived.OwnWalk
namespace Go.Proofs.Qxb6613257a
open Go.RowKit

/-- two keys that differ -/
def Apart (a b : Ent) : Prop := a.key.toList ≠ b.key.toList

/-- the table's state: just the keys of hs are held -/
structure Inv (w : World) (L M : Nat) (hs : List Ent) : Prop where
  locks : LocksAt w L M 0
  map : ∃ es c tab, w.heap[M]? = some (.map es c) ∧ Tab es.toList tab ∧ tab.Perm hs
  ents : ∀ e ∈ hs, EntAt w L e
  keys : hs.Pairwise Apart

theorem pairwise_perm {a b : List Ent} (h : a.Perm b) (hb : b.Pairwise Apart) : a.Pairwise Apart := (h.pairwise_iff (fun {_ _} hxy => Ne.symm hxy)).2 hb

theorem split_tab {tab hs : List Ent} {e : Ent} (hp : tab.Perm hs) (hk : hs.Pairwise Apart) (he : e ∈ hs) : ∃ l r, tab = l ++ e :: r ∧ ∀ x ∈ l, x.key.toList ≠ e.key.toList := by
  obtain ⟨l, r, rfl⟩ := List.append_of_mem (hp.mem_iff.2 he)
  refine ⟨l, r, rfl, fun x hx => ?_⟩
  have := pairwise_perm hp hk
  rw [List.pairwise_append] at this
  exact this.2.2 x hx e (by simp)

theorem entriesI {w : World} {L M : Nat} {hs : List Ent} (h : Inv w L M hs) :
    Calls Try.prog 7 #[.pointer (some ⟨L, 0, none⟩)] w fun e w' => e = .returned (.int .i64 hs.length) ∧ w' = w := by
  obtain ⟨es, c, tab, hM, ht, hp⟩ := h.map
  refine (entries h.locks hM).mono ?_
  rintro e w' ⟨rfl, rfl⟩
  have hl : es.size = hs.length := by rw [← hp.length_eq, ← ht.length]; simp
  exact ⟨by rw [hl], rfl⟩

theorem hasI_no {w : World} {L M : Nat} {hs : List Ent} {k : ByteArray} (h : Inv w L M hs) (hk : ∀ e ∈ hs, e.key.toList ≠ k.toList) :
    Calls Try.prog 8 #[.pointer (some ⟨L, 0, none⟩), .string k] w fun e w' => e = .returned (.bool false) ∧ w' = w := by
  obtain ⟨es, c, tab, hM, ht, hp⟩ := h.map
  exact has_no h.locks hM ht fun e he => hk e (hp.mem_iff.1 he)

theorem hasI_yes {w : World} {L M : Nat} {hs : List Ent} {e : Ent} (h : Inv w L M hs) (he : e ∈ hs) :
    Calls Try.prog 8 #[.pointer (some ⟨L, 0, none⟩), .string e.key] w fun x w' => x = .returned (.bool true) ∧ w' = w := by
  obtain ⟨es, c, tab, hM, ht, hp⟩ := h.map
  obtain ⟨l, r, rfl, hl⟩ := split_tab hp h.keys he
  exact has_yes h.locks hM ht hl

theorem usersI {w : World} {L M : Nat} {hs : List Ent} {e : Ent} (h : Inv w L M hs) (he : e ∈ hs) :
    Calls Try.prog 10 #[.pointer (some ⟨L, 0, none⟩), .string e.key] w fun x w' => x = .returned (.int .i64 1) ∧ w' = w := by
  obtain ⟨es, c, tab, hM, ht, hp⟩ := h.map
  obtain ⟨l, r, rfl, hl⟩ := split_tab hp h.keys he
  exact users_one h.locks hM ht hl (cell_of (h.ents e he).e4 (by rfl))

/-- the blocks of two keys that differ do not meet where 'free' writes -/
theorem EntAt.apart {w : World} {L : Nat} {e x : Ent} (he : EntAt w L e) (hx : EntAt w L x) (h : Apart x e) : ∀ j, j ≤ 5 → x.b + j ≠ e.b + 3 ∧ x.b + j ≠ e.b + 4 := by
  have hb : x.b ≠ e.b := by
    intro hh
    have h1 := hx.e1
    rw [hh, he.e1] at h1
    have : e.key = x.key := by simpa using h1
    exact h (by rw [this])
  intro j hj
  rcases (show j = 0 ∨ j = 1 ∨ j = 2 ∨ j = 3 ∨ j = 4 ∨ j = 5 by omega) with rfl | rfl | rfl | rfl | rfl | rfl
  · exact ⟨ne_of hx.e0 he.e3 (by simp), ne_of hx.e0 he.e4 (by simp)⟩
  · exact ⟨ne_of hx.e1 he.e3 (by simp), ne_of hx.e1 he.e4 (by simp)⟩
  · exact ⟨ne_of hx.e2 he.e3 (by simp), ne_of hx.e2 he.e4 (by simp)⟩
  · exact ⟨by omega, ne_of hx.e3 he.e4 (by simp)⟩
  · exact ⟨ne_of hx.e4 he.e3 (by simp), by omega⟩
  · exact ⟨ne_of hx.e5 he.e3 (by simp), ne_of hx.e5 he.e4 (by simp)⟩

theorem EntAt.notMap {w : World} {L M c : Nat} {es : Array MapEntry} {x : Ent} (hx : EntAt w L x) (hM : w.heap[M]? = some (.map es c)) : ∀ j, j ≤ 5 → x.b + j ≠ M := by
  intro j hj
  rcases (show j = 0 ∨ j = 1 ∨ j = 2 ∨ j = 3 ∨ j = 4 ∨ j = 5 by omega) with rfl | rfl | rfl | rfl | rfl | rfl
  · exact ne_of hx.e0 hM (by simp)
  · exact ne_of hx.e1 hM (by simp)
  · exact ne_of hx.e2 hM (by simp)
  · exact ne_of hx.e3 hM (by simp)
  · exact ne_of hx.e4 hM (by simp)
  · exact ne_of hx.e5 hM (by simp)

theorem unlockI {w : World} {L M : Nat} {hs hs' : List Ent} {e : Ent} (h : Inv w L M hs) (hp' : hs.Perm (e :: hs')) :
    Calls Try.prog 6 #[.agg #[e.free]] w fun x w' => x = .returned (.tuple #[]) ∧ Inv w' L M hs' ∧ Only [M, e.b + 3, e.b + 4] w w' := by
  obtain ⟨es, c, tab, hM, ht, hp⟩ := h.map
  have he : e ∈ hs := hp'.mem_iff.2 (by simp)
  obtain ⟨l, r, rfl, hl⟩ := split_tab hp h.keys he
  have heA := h.ents e he
  refine (unlockZ h.locks hM ht hl heA).mono ?_
  rintro x w' ⟨rfl, hM', hO⟩
  have hk' : (e :: hs').Pairwise Apart := pairwise_perm hp'.symm h.keys
  refine ⟨rfl, ⟨hO.get h.locks ?_, ⟨_, _, l ++ r, hM', ?_, ?_⟩, ?_, (List.pairwise_cons.1 hk').2⟩, hO⟩
  · have h1 : L ≠ M := ne_of h.locks hM (by simp)
    have h2 : L ≠ e.b + 3 := ne_of h.locks heA.e3 (by simp)
    have h3 : L ≠ e.b + 4 := ne_of h.locks heA.e4 (by simp)
    simp [h1, h2, h3]
  · have hlen : l.length < es.size := by have := ht.length; simp at this; omega
    rw [Array.eraseIdxIfInBounds, dif_pos hlen, Array.toList_eraseIdx]
    exact ht.drop
  · have : (e :: (l ++ r)).Perm (e :: hs') := (List.perm_middle.symm.trans hp).trans hp'
    exact this.cons_inv
  · intro y hy
    have hyh : y ∈ hs := hp'.mem_iff.2 (by simp [hy])
    have hya := h.ents y hyh
    have hap : Apart y e := Ne.symm ((List.pairwise_cons.1 hk').1 y hy)
    refine hya.only hO fun j hj => ?_
    have h1 := heA.apart hya hap j hj
    have h2 := hya.notMap hM j hj
    simp [h1.1, h1.2, h2]

theorem lockI {w : World} {L M : Nat} {hs : List Ent} {k : ByteArray} (h : Inv w L M hs) (hk : ∀ e ∈ hs, e.key.toList ≠ k.toList) :
    Calls Try.prog 9 #[.pointer (some ⟨L, 0, none⟩), .string k] w fun x w' => x = .returned (.tuple #[.agg #[(⟨k, w.heap.size + 1⟩ : Ent).free], .nilIface]) ∧
      Inv w' L M (hs ++ [⟨k, w.heap.size + 1⟩]) ∧ Only [M] w w' := by
  obtain ⟨es, c, tab, hM, ht, hp⟩ := h.map
  refine (lockZ h.locks hM ht fun e he => hk e (hp.mem_iff.1 he)).mono ?_
  rintro x w' ⟨rfl, hM', hE, hO⟩
  refine ⟨rfl, ⟨hO.get h.locks ?_, ⟨_, _, tab ++ [⟨k, w.heap.size + 1⟩], hM', ?_, hp.append_right _⟩, ?_, ?_⟩, hO⟩
  · have h1 : L ≠ M := ne_of h.locks hM (by simp)
    simpa using h1
  · have := ht.push ⟨k, w.heap.size + 1⟩ c
    simpa using this
  · intro y hy
    rcases List.mem_append.1 hy with hy | hy
    · exact (h.ents y hy).only hO fun j hj => by simpa using (h.ents y hy).notMap hM j hj
    · simp at hy; subst hy; exact hE
  · rw [List.pairwise_append]
    refine ⟨h.keys, by simp, fun a ha b hb => ?_⟩
    simp at hb; subst hb
    exact hk a ha

theorem Inv.nil {w : World} {L M : Nat} (hL : LocksAt w L M 0) (hM : w.heap[M]? = some (.map #[] 0)) : Inv w L M [] :=
  ⟨hL, ⟨_, _, [], hM, rfl, .refl _⟩, by simp, by simp⟩

theorem Inv.only {w w' : World} {L M : Nat} {hs : List Ent} {S : List Nat} (h : Inv w L M hs) (hO : Only S w w') (hL : L ∉ S) (hM : M ∉ S) (hE : ∀ e ∈ hs, ∀ j, j ≤ 5 → e.b + j ∉ S) : Inv w' L M hs := by
  obtain ⟨es, c, tab, hMM, ht, hp⟩ := h.map
  exact ⟨hO.get h.locks hL, ⟨es, c, tab, hO.get hMM hM, ht, hp⟩, fun e he => (h.ents e he).only hO (hE e he), h.keys⟩
end Go.Proofs.Qxb6613257a
