import Derived.Test.Qxb6613118aLeaf
import Derived.ProofKit
import Derived.Deep.Strs
namespace Go.Proofs.Qxb6613118a
open Go.ChangeShapes Go.WideShapes Go.ChangeAt Go.RowKit

theorem Try.cells34 : Try.prog.cellsOf 34 = 4 := by kernel_rfl
theorem Try.cells29 : Try.prog.cellsOf 29 = 1 := by kernel_rfl
theorem Try.cells9 : Try.prog.cellsOf 9 = 1 := by kernel_rfl
theorem Try.cells32 : Try.prog.cellsOf 32 = 1 := by kernel_rfl
theorem Try.cells40 : Try.prog.cellsOf 40 = 1 := by kernel_rfl

/-- what the walks are told of the commits that came in -/
def InAt (w : World) (ao : Option Addr) (n : Nat) (R : Nat → Com) : Prop :=
  n = 0 ∨ ∃ b off, ao = some ⟨b, off, none⟩ ∧ CellsAt w b off n R ∧ AllKeys w n R

theorem lt_of_cell {w : World} {a : Addr} {v : Value} (h : w.cell? a = some v) : a.block < w.heap.size := by
  by_cases hb : a.block < w.heap.size
  · exact hb
  · have e : w.heap[a.block]? = none := by simp; omega
    simp [World.cell?, e] at h

section
variable {H : Type} {enc : TypeId × Value → H} {w : World} {base : Nat} {spare : Nat → Bool} {held : Bool}

/-- the keys of one commit -/
theorem open_keys {n : Nat} {v : Value} {x : DataW H × List MemPlace} (h : DataW.trod enc Try.prog w base spare held n 32 [v] = some x) :
    ∃ a q m, v = .slice a q m ∧ KeysAt w a q ∧ q ≤ maxLen := by
  rcases Deep.open_slice1 Try.underlying32 Try.cells40 h with ⟨hcs, _⟩ | ⟨a, len, cap, m, n', V, D, Pl, hcs, _, hl, hm, hmm, _, hx⟩
  · simp at hcs
    subst hcs
    exact ⟨none, 0, 0, rfl, .inl rfl, Nat.zero_le _⟩
  · simp at hcs
    subst hcs
    have hlm : len ≤ m := by rw [hmm]; split <;> omega
    refine ⟨some a, len, cap, rfl, ?_, Nat.le_trans hl hm⟩
    by_cases h0 : len = 0
    · exact .inl h0
    · right
      have hsp := World.cell?_spot (hx 0 (by omega)).1
      have hlt := lt_of_cell (hx 0 (by omega)).1
      obtain ⟨b, off, spot⟩ := a
      simp [Addr.add] at hsp hlt
      subst hsp
      refine ⟨b, off, rfl, hlt, fun j hj => ?_⟩
      obtain ⟨h1, h2⟩ := hx j (by omega)
      rw [add_plain] at h1
      rcases Deep.open_slice Try.underlying40 h2 with ⟨hcs, _⟩ | ⟨a', len', cap', _, _, _, _, hcs, _⟩
      · simp at hcs
        exact ⟨none, 0, 0, by rw [h1, hcs]⟩
      · simp at hcs
        exact ⟨some a', len', cap', by rw [h1, hcs]⟩

/-- one commit, opened -/
theorem open_commit {n : Nat} {cs : List Value} {x : DataW H × List MemPlace} (h : DataW.trod enc Try.prog w base spare held n 34 cs = some x) :
    ∃ r : Com, cs = [.int .u64 r.s, .int .u64 r.c, .string r.p, .slice r.a r.n r.m] ∧ KeysAt w r.a r.n ∧ r.n ≤ maxLen := by
  obtain ⟨xs, m, _, rfl, hl, hlen, hf⟩ := DataW.trod_struct Try.underlying34 h
  rw [Try.cells34] at hl
  match cs, hl with
  | [c0, c1, c2, c3], _ =>
    have g0 := hf 0 _ rfl
    have g1 := hf 1 _ rfl
    have g2 := hf 2 _ rfl
    have g3 := hf 3 _ rfl
    match xs, hlen with
    | [y0, y1, y2, y3], _ =>
      simp [Try.cells29, Try.cells9, Try.cells32] at g0 g1 g2 g3
      obtain ⟨s, e0, _, _⟩ := DataW.trod_int Try.underlying29 g0
      obtain ⟨c, e1, _, _⟩ := DataW.trod_int Try.underlying29 g1
      obtain ⟨p, e2, _, _⟩ := DataW.trod_string Try.underlying9 g2
      obtain ⟨a, q, m', rfl, hk, hq⟩ := open_keys g3
      simp at e0 e1 e2
      subst e0 e1 e2
      exact ⟨⟨s, c, p, a, q, m'⟩, rfl, hk, hq⟩

end

theorem open_commits {H : Type} {enc : TypeId × Value → H} {w : World} {base : Nat} {held : Bool} {ao : Option Addr} {len cap : Nat} {d : DataW H} {p : List MemPlace}
    (h : DataW.Trod enc Try.prog w base (fun _ => true) held 22 (.slice ao len cap) d p) :
    ∃ R, InAt w ao len R ∧ (ao = none → cap = 0) ∧ len ≤ cap ∧ len ≤ maxLen := by
  obtain ⟨fuel, hf⟩ := h
  rcases Deep.open_slice Try.underlying22 hf with ⟨hcs, _⟩ | ⟨a, l, c, m, n, D, Pl, hcs, _, hl, hm, hmm, _, hx⟩
  · simp [Value.cells] at hcs
    obtain ⟨rfl, rfl, rfl⟩ := hcs
    exact ⟨fun _ => ⟨0, 0, ⟨#[]⟩, none, 0, 0⟩, .inl rfl, fun _ => rfl, Nat.le_refl _, Nat.zero_le _⟩
  · simp [Value.cells] at hcs
    obtain ⟨rfl, rfl, rfl⟩ := hcs
    simp only [if_true] at hmm
    subst hmm
    rw [Try.cells34] at hx
    have each : ∀ i, ∃ r : Com, i < m → (∀ t, t < 4 → w.cell? ((a.add (i * 4)).add t) = ([.int .u64 r.s, .int .u64 r.c, .string r.p, .slice r.a r.n r.m] : List Value)[t]?) ∧ KeysAt w r.a r.n ∧ r.n ≤ maxLen := fun i => by
      by_cases hi : i < m
      · obtain ⟨cs', h1, h2⟩ := hx i hi
        obtain ⟨_, _, hcell⟩ := World.cells?_some h1
        obtain ⟨r, rfl, hk, hq⟩ := open_commit h2
        exact ⟨r, fun _ => ⟨hcell, hk, hq⟩⟩
      · exact ⟨⟨0, 0, ⟨#[]⟩, none, 0, 0⟩, fun h => absurd h hi⟩
    obtain ⟨R, hR⟩ : ∃ R : Nat → Com, ∀ i, i < m → (∀ t, t < 4 → w.cell? ((a.add (i * 4)).add t) = ([.int .u64 (R i).s, .int .u64 (R i).c, .string (R i).p, .slice (R i).a (R i).n (R i).m] : List Value)[t]?) ∧ KeysAt w (R i).a (R i).n ∧ (R i).n ≤ maxLen :=
      ⟨fun i => Classical.choose (each i), fun i hi => Classical.choose_spec (each i) hi⟩
    clear each
    refine ⟨R, ?_, by simp, hl, Nat.le_trans hl hm⟩
    by_cases h0 : len = 0
    · exact .inl h0
    · right
      have hc0 := (hR 0 (by omega)).1 0 (by omega)
      have hsp := World.cell?_spot (hc0.trans rfl)
      have hlt := lt_of_cell (hc0.trans rfl)
      obtain ⟨b, off, spot⟩ := a
      simp [Addr.add] at hsp hlt
      subst hsp
      refine ⟨b, off, rfl, ⟨hlt, fun j hj => ?_⟩, fun j hj => (hR j (by omega)).2⟩
      have hs := (hR j (by omega)).1
      have h0 := hs 0 (by omega)
      have h1 := hs 1 (by omega)
      have h2 := hs 2 (by omega)
      have h3 := hs 3 (by omega)
      simp only [add_plain, Nat.add_zero] at h0 h1 h2 h3
      exact ⟨by rw [h0]; rfl, by rw [h1]; rfl, by rw [h2]; rfl, by rw [h3]; rfl⟩

end Go.Proofs.Qxb6613118a
