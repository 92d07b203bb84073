import Derived.Test.Qxb6613257aComm
import Derived.Laws.StructEq
namespace Go.Proofs.Qxb6613257a
open Go.Instr

/-- a held key: its text, and the first of the six blocks that 'lock' made for it -/
structure Ent where
  key : ByteArray
  b : Nat

def Ent.entry (e : Ent) (n : Nat) : MapEntry := { key := .string e.key, val := .pointer (some ⟨e.b + 4, 0, none⟩), born := n }

/-- the map's entries: one for each of tab, in order -/
def Tab (es : List MapEntry) (tab : List Ent) : Prop := es.map (fun m => (m.key, m.val)) = tab.map (fun e => (Value.string e.key, Value.pointer (some ⟨e.b + 4, 0, none⟩)))

theorem Tab.length {es : List MapEntry} {tab : List Ent} (h : Tab es tab) : es.length = tab.length := by simpa using congrArg List.length h

theorem find_none {k : ByteArray} {tab : List Ent} (hk : ∀ e ∈ tab, e.key.toList ≠ k.toList) : ∀ {es : List MapEntry} (i : Nat), Tab es tab → findNow .string (.string k) es i = some none := by
  induction tab with
  | nil =>
    intro es i h
    cases es with
    | nil => rfl
    | cons => simp [Tab] at h
  | cons e tab ih =>
    intro es i h
    cases es with
    | nil => simp [Tab] at h
    | cons m es =>
      simp [Tab] at h
      have hne : (k == e.key) = false := by rw [beq_toListBytes]; exact beq_eq_false_iff_ne.2 fun hh => hk e (by simp) hh.symm
      simp only [findNow, sameNow, h.1.1, hne]
      exact ih (fun e' he' => hk e' (by simp [he'])) (i + 1) h.2

theorem find_some {k : ByteArray} {b : Nat} {l r : List Ent} (hk : ∀ e ∈ l, e.key.toList ≠ k.toList) : ∀ {es : List MapEntry} (i : Nat), Tab es (l ++ ⟨k, b⟩ :: r) → findNow .string (.string k) es i = some (some (i + l.length, .pointer (some ⟨b + 4, 0, none⟩))) := by
  induction l with
  | nil =>
    intro es i h
    cases es with
    | nil => simp [Tab] at h
    | cons m es =>
      simp [Tab] at h
      have heq : (k == k) = true := by rw [beq_toListBytes]; simp
      simp [findNow, sameNow, h.1.1, h.1.2, heq]
  | cons e l ih =>
    intro es i h
    cases es with
    | nil => simp [Tab] at h
    | cons m es =>
      simp [Tab] at h
      have hne : (k == e.key) = false := by rw [beq_toListBytes]; exact beq_eq_false_iff_ne.2 fun hh => hk e (by simp) hh.symm
      simp only [findNow, sameNow, h.1.1, hne]
      rw [ih (fun e' he' => hk e' (by simp [he'])) (i + 1) (by simp [Tab, h.2])]
      simp only [List.length_cons]
      rw [Nat.add_assoc, Nat.add_comm 1]

theorem Tab.push {es : List MapEntry} {tab : List Ent} (h : Tab es tab) (e : Ent) (n : Nat) : Tab (es ++ [{ key := .string e.key, val := .pointer (some ⟨e.b + 4, 0, none⟩), born := n }]) (tab ++ [e]) := by
  simp only [Tab, List.map_append, List.map_cons, List.map_nil]; rw [h]

theorem map_eraseIdx {α β : Type} (f : α → β) (l : List α) : ∀ n, (l.eraseIdx n).map f = (l.map f).eraseIdx n := by
  induction l with
  | nil => intro n; rfl
  | cons x l ih =>
    intro n
    cases n with
    | zero => rfl
    | succ n => simp [ih n]

theorem Tab.drop {es : List MapEntry} {l r : List Ent} {e : Ent} (h : Tab es (l ++ e :: r)) : Tab (es.eraseIdx l.length) (l ++ r) := by
  have h1 : es.map (fun m => (m.key, m.val)) = (l ++ e :: r).map (fun e => (Value.string e.key, Value.pointer (some ⟨e.b + 4, 0, none⟩))) := h
  have h2 : l ++ r = (l ++ e :: r).eraseIdx l.length := by simp [List.eraseIdx_append_of_length_le]
  unfold Tab
  rw [h2, map_eraseIdx, map_eraseIdx, h1]

/-- the world with another thing in block i -/
def putB (w : World) (i : Nat) (o : Obj) : World := { w with heap := w.heap.setIfInBounds i o }

theorem check_string (em : Bool) (k : ByteArray) (w : World) : (checkKey em 10000 9 (.string k)).run Try.prog w = .ok () w := by
  unfold checkKey
  simp [go_sem]

theorem key_run {k : Value} {l : List MapEntry} {r : Option (Nat × Value)} (h : findNow .string k l 0 = some r) (w : World) : (findKey 9 k l).run Try.prog w = .ok r w := by
  simp [findKey, go_sem, h]

section
variable {w : World} {M c : Nat} {es : Array MapEntry}

theorem get_map {P : Program} (hm : w.heap[M]? = some (.map es c)) : (getObj M).run P w = .ok (.map es c) w := by simp [getObj, Sem.run, hm]
theorem set_map {P : Program} (o : Obj) (hm : w.heap[M]? = some (.map es c)) : (setObj M o).run P w = .ok () (putB w M o) := by simp [setObj, Sem.run, hm, putB]

theorem look_none {k : ByteArray} {tab : List Ent} (hm : w.heap[M]? = some (.map es c)) (ht : Tab es.toList tab) (hk : ∀ e ∈ tab, e.key.toList ≠ k.toList) (commaOk : Bool) :
    (lookup 37 (.map (some M)) (.string k) commaOk).run Try.prog w = .ok (if commaOk then .tuple #[.pointer none, .bool false] else .pointer none) w := by
  have hf := key_run (find_none hk 0 ht) w
  simp [lookup, go_sem, get_map hm, check_string, hf]

theorem look_some {k : ByteArray} {b : Nat} {l r : List Ent} (hm : w.heap[M]? = some (.map es c)) (ht : Tab es.toList (l ++ ⟨k, b⟩ :: r)) (hk : ∀ e ∈ l, e.key.toList ≠ k.toList) (commaOk : Bool) :
    (lookup 37 (.map (some M)) (.string k) commaOk).run Try.prog w = .ok (if commaOk then .tuple #[.pointer (some ⟨b + 4, 0, none⟩), .bool true] else .pointer (some ⟨b + 4, 0, none⟩)) w := by
  have hf := key_run (find_some hk 0 ht) w
  simp [lookup, go_sem, get_map hm, check_string, hf]

theorem update_new {k : ByteArray} {v : Value} {tab : List Ent} (hm : w.heap[M]? = some (.map es c)) (ht : Tab es.toList tab) (hk : ∀ e ∈ tab, e.key.toList ≠ k.toList) :
    (mapUpdate 37 (.map (some M)) (.string k) v).run Try.prog w = .ok () (putB w M (.map (es.push { key := .string k, val := v, born := c }) (c + 1))) := by
  have hf := key_run (find_none hk 0 ht) w
  simp [mapUpdate, go_sem, get_map hm, check_string, hf, set_map _ hm]

theorem delete_some {k : ByteArray} {b : Nat} {l r : List Ent} (hm : w.heap[M]? = some (.map es c)) (ht : Tab es.toList (l ++ ⟨k, b⟩ :: r)) (hk : ∀ e ∈ l, e.key.toList ≠ k.toList) (t : TypeId) :
    (Builtin.delete_ #[37, 9] t #[.map (some M), .string k]).run Try.prog w = .ok (.tuple #[]) (putB w M (.map (es.eraseIdxIfInBounds l.length) c)) := by
  have hf := key_run (find_some hk 0 ht) w
  simp [Builtin.delete_, go_sem, get_map hm, check_string, hf, set_map _ hm]

theorem len_map (hm : w.heap[M]? = some (.map es c)) (t : TypeId) :
    (Builtin.len_ #[37] t #[.map (some M)]).run Try.prog w = .ok (goInt es.size) w := by
  simp [Builtin.len_, go_sem, get_map hm]
end
end Go.Proofs.Qxb6613257a
