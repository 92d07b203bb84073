import Derived.Test.Qxb6612891aLeaf
import Derived.ProofKit
import Derived.Deep.Strs
namespace Go.Proofs.Qxb6612891a
open Go.ChangeShapes Go.WideShapes Go.ChangeAt Go.RowKit

theorem Try.cells30 : Try.prog.cellsOf 30 = 3 := by kernel_rfl
theorem Try.cells9 : Try.prog.cellsOf 9 = 1 := by kernel_rfl

theorem lt_of_cell {w : World} {a : Addr} {v : Value} (h : w.cell? a = some v) : a.block < w.heap.size := by
  by_cases hb : a.block < w.heap.size
  · exact hb
  · have e : w.heap[a.block]? = none := by simp; omega
    simp [World.cell?, e] at h

/-- one line, opened -/
theorem open_line {H : Type} {enc : TypeId × Value → H} {w : World} {base n : Nat} {spare : Nat → Bool} {held : Bool} {a : Addr} {cs : List Value} {x : DataW H × List MemPlace}
    (h1 : w.cells? base a 3 = some cs) (h2 : DataW.trod enc Try.prog w base spare held n 30 cs = some x) :
    ∃ l : Line, w.cell? (a.add 0) = some (.string l.1) ∧ w.cell? (a.add 1) = some (.string l.2.1) ∧ w.cell? (a.add 2) = some (.string l.2.2) := by
  obtain ⟨_, hlen, hcell⟩ := World.cells?_some h1
  obtain ⟨y0, y1, y2, m, _, _, g0, g1, g2⟩ := Deep.trod_struct3 Try.underlying30 h2
  obtain ⟨s0, e0, _, _⟩ := DataW.trod_string Try.underlying9 g0
  obtain ⟨s1, e1, _, _⟩ := DataW.trod_string Try.underlying9 g1
  obtain ⟨s2, e2, _, _⟩ := DataW.trod_string Try.underlying9 g2
  match cs, hlen with
  | [c0, c1, c2], _ =>
    simp [Try.cells9] at e0 e1 e2
    subst e0 e1 e2
    exact ⟨(s0, s1, s2), hcell 0 (by omega), hcell 1 (by omega), hcell 2 (by omega)⟩

theorem open_lines {H : Type} {enc : TypeId × Value → H} {w : World} {base : Nat} {held : Bool} {ao : Option Addr} {len cap : Nat} {d : DataW H} {p : List MemPlace}
    (h : DataW.Trod enc Try.prog w base (fun _ => true) held 22 (.slice ao len cap) d p) :
    ∃ L, LinesAt w ao len L ∧ (ao = none → cap = 0) ∧ len ≤ cap ∧ len ≤ maxLen := by
  obtain ⟨fuel, hf⟩ := h
  rcases Deep.open_slice Try.underlying22 hf with ⟨hcs, _⟩ | ⟨a, l, c, m, n, D, Pl, hcs, _, hl, hm, hmm, _, hx⟩
  · simp [Value.cells] at hcs
    obtain ⟨rfl, rfl, rfl⟩ := hcs
    exact ⟨fun _ => default, .inl rfl, fun _ => rfl, Nat.le_refl _, Nat.zero_le _⟩
  · simp [Value.cells] at hcs
    obtain ⟨rfl, rfl, rfl⟩ := hcs
    simp only [if_true] at hmm
    subst hmm
    rw [Try.cells30] at hx
    obtain ⟨L, hL⟩ := Deep.choose_lt (α := Line) (p := fun i l => w.cell? ((a.add (i * 3)).add 0) = some (.string l.1) ∧ w.cell? ((a.add (i * 3)).add 1) = some (.string l.2.1) ∧ w.cell? ((a.add (i * 3)).add 2) = some (.string l.2.2)) (n := m) (fun i hi => by
      obtain ⟨cs', h1, h2⟩ := hx i hi
      exact open_line h1 h2)
    refine ⟨L, ?_, by simp, hl, Nat.le_trans hl hm⟩
    by_cases h0 : len = 0
    · exact .inl h0
    · right
      have hsp := World.cell?_spot (hL 0 (by omega)).1
      have hlt : a.block < w.heap.size := by simpa [Addr.add] using lt_of_cell (hL 0 (by omega)).1
      obtain ⟨b, off, spot⟩ := a
      simp [Addr.add] at hsp
      subst hsp
      refine ⟨b, off, rfl, hlt, fun j hj => ?_⟩
      have := hL j (by omega)
      simpa [add_plain] using this

end Go.Proofs.Qxb6612891a
