import Derived.Test.Qxb6612891aCut
namespace Go.Proofs.Qxb6612891a
open Go.RowKit

/-- the cell at place t of a row of lines -/
def fld (L : Nat → Line) (t : Nat) : Value := if t % 3 = 0 then .string (L (t / 3)).1 else if t % 3 = 1 then .string (L (t / 3)).2.1 else .string (L (t / 3)).2.2

/-- the cells of m lines -/
def row (m : Nat) (L : Nat → Line) : List Value := (List.range (m * 3)).map (fld L)

/-- the first m of L, then M -/
def join (m : Nat) (L M : Nat → Line) : Nat → Line := fun j => if j < m then L j else M (j - m)

theorem row_length (m : Nat) (L : Nat → Line) : (row m L).length = m * 3 := by simp [row]

theorem row_get (m : Nat) (L : Nat → Line) (t : Nat) (h : t < m * 3) : (row m L)[t]? = some (fld L t) := by simp [row, h]

theorem row_one (m : Nat) (L : Nat → Line) : ∀ u ∈ row m L, u.oneCell' = true := by
  intro u hu
  obtain ⟨t, _, rfl⟩ := List.mem_map.1 hu
  unfold fld
  split
  · rfl
  · split <;> rfl

theorem row_join (m r : Nat) (L M : Nat → Line) : row m L ++ row r M = row (m + r) (join m L M) := by
  apply List.ext_getElem?
  intro t
  by_cases h1 : t < m * 3
  · rw [List.getElem?_append_left (by rw [row_length]; exact h1), row_get _ _ _ h1, row_get _ _ _ (by omega)]
    unfold fld join
    rw [if_pos (show t / 3 < m by omega)]
  · rw [List.getElem?_append_right (by rw [row_length]; omega), row_length]
    by_cases h2 : t < (m + r) * 3
    · rw [row_get _ _ _ (by omega), row_get _ _ _ h2]
      unfold fld join
      rw [if_neg (show ¬ t / 3 < m by omega), show (t - m * 3) % 3 = t % 3 by omega, show (t - m * 3) / 3 = t / 3 - m by omega]
    · rw [List.getElem?_eq_none (by rw [row_length]; omega), List.getElem?_eq_none (by rw [row_length]; omega)]

theorem row_single (x0 x1 x2 : ByteArray) : ([.string x0, .string x1, .string x2] : List Value) = row 1 (fun _ => (x0, x1, x2)) := by
  simp [row, List.range, List.range.loop, fld]

theorem fld_cells {w : World} {b off n : Nat} {L : Nat → Line} (h : CellsAt w b off n L) (t : Nat) (ht : t < n * 3) : w.cell? ⟨b, off + t, none⟩ = some (fld L t) := by
  obtain ⟨g0, g1, g2⟩ := h.2 (t / 3) (by omega)
  have e : t = t / 3 * 3 + t % 3 := by omega
  have h3 : t % 3 < 3 := by omega
  unfold fld
  rcases (show t % 3 = 0 ∨ t % 3 = 1 ∨ t % 3 = 2 by omega) with hm | hm | hm
  · rw [if_pos hm, ← g0, show off + t / 3 * 3 = off + t by omega]
  · rw [if_neg (by omega), if_pos hm, ← g1, show off + t / 3 * 3 + 1 = off + t by omega]
  · rw [if_neg (by omega), if_neg (by omega), ← g2, show off + t / 3 * 3 + 2 = off + t by omega]

/-- a row of the call's own that holds n lines -/
theorem own_cells {w : World} {base e g n cap : Nat} {L : Nat → Line} (h : w.ownsRow base e 3 (.slice (some ⟨g, 0, none⟩) n cap) n (row n L)) : CellsAt w g 0 n L := by
  refine ⟨(h.lt g rfl).2, fun j hj => ?_⟩
  simp only [Nat.zero_add]
  refine ⟨?_, ?_, ?_⟩
  · rw [h.cellAt _ (by omega), row_get _ _ _ (by omega)]
    unfold fld
    rw [if_pos (by omega), show j * 3 / 3 = j by omega]
  · rw [h.cellAt _ (by omega), row_get _ _ _ (by omega)]
    unfold fld
    rw [if_neg (by omega), if_pos (by omega), show (j * 3 + 1) / 3 = j by omega]
  · rw [h.cellAt _ (by omega), row_get _ _ _ (by omega)]
    unfold fld
    rw [if_neg (by omega), if_neg (by omega), show (j * 3 + 2) / 3 = j by omega]

theorem allExe_congr (n : Nat) (L M : Nat → Line) (h : ∀ j, j < n → L j = M j) : allExe n L = allExe n M := by
  rw [Bool.eq_iff_iff, allExe_iff, allExe_iff]
  exact ⟨fun g j hj => by rw [← h j hj]; exact g j hj, fun g j hj => by rw [h j hj]; exact g j hj⟩

theorem allExe_join (m r : Nat) (L M : Nat → Line) : allExe (m + r) (join m L M) = (allExe m L && allExe r M) := by
  rw [allExe_split (m + r) m _ (by omega), show m + r - m = r by omega]
  congr 1
  · exact allExe_congr _ _ _ fun j hj => by unfold join; rw [if_pos hj]
  · exact allExe_congr _ _ _ fun j hj => by unfold join; rw [if_neg (by omega), show m + j - m = j by omega]

/-- the lines with one more put in at place k -/
def putIn (k : Nat) (x : Line) (L : Nat → Line) : Nat → Line := join k L (join 1 (fun _ => x) (fun j => L (k + j)))

theorem allExe_putIn (n k : Nat) (x : Line) (L : Nat → Line) (hk : k ≤ n) : allExe (k + (1 + (n - k))) (putIn k x L) = (allExe n L && isExe x.2.1) := by
  unfold putIn
  rw [allExe_join, allExe_join, allExe_split n k L hk, show allExe 1 (fun _ => x) = isExe x.2.1 from by simp [allExe, List.range, List.range.loop]]
  cases allExe k L <;> cases isExe x.2.1 <;> cases allExe (n - k) (fun j => L (k + j)) <;> rfl

end Go.Proofs.Qxb6612891a
