import Derived.Test.Qxb6613257aMu
import Derived.Conc.LoneCalls
import Derived.Conc.LoneSelectN
import Derived.Conc.SmallLaws
import Derived.Tactics2
namespace Go.Proofs.Qxb6613257a
open Go.Conc

/-- inside a region, some operations still to come: however the frame lies, the walk arrives at what Q says -/
def InReg (P : Program) (ops : Array Oper) (l : List Nat) (Q : Exit → Act → World → Prop) (a : Act) (w : World) : Prop :=
  ∀ (b : Frame) (k : List Item) (cs : List Frame), ∃ e a' w', Q e a' w' ∧ Arrives P (lone (b.at a (.inRegion ops l :: k)) cs w) b k cs e a' w'

variable {P : Program} {ops : Array Oper} {Q : Exit → Act → World → Prop} {a : Act} {w w' : World} {i : Nat} {rest : List Nat} {o : Oper} {v : Value}

theorem wp_inReg {id : Nat} (h : InReg P ops (List.range ops.size) Q a w) : (Code.region id ops false).wp P Q a w :=
  fun b k cs => let ⟨e, a', w', q, r⟩ := h b k cs; ⟨e, a', w', q, .of_steps (.one step_region) r⟩

theorem inReg_rest (h : wpOps P ops Q rest a w) : InReg P ops rest Q a w := wp_ops rest a w h

theorem inReg_value (ho : ops[i]? = some o) (hg : o.guard = none) (hr : (execOp a.eval o).run P w = .ok (.value v) w')
    (h : InReg P ops rest Q (a.put o.dst v) w') : InReg P ops (i :: rest) Q a w := by
  intro b k cs
  have hw : Region.wanted o (yielded ops a.tmps) = true := by simp [Region.wanted, hg]
  obtain ⟨e, a', w'', hq, harr⟩ := h b k cs
  have hg' := stepG_op (P := P) (b := b) (k := k) (cs := cs) (w := w) (rest := rest) ho hw
  have hfin : (b.at a (.inRegion ops (i :: rest) :: k)).finish v = b.at (a.put o.dst v) (.inRegion ops rest :: k) := by rw [Frame.finish_at, ho]; rfl
  refine ⟨e, a', w'', hq, .of_steps (.one (step_lone_go ?_)) harr⟩
  rw [hg', ← hfin]; simp [stepG.apply, hr]

theorem inReg_comm {cases : Array CommCase} {blocking : Bool} {shape : CommShape} {w₁ : World} (ho : ops[i]? = some o) (hg : o.guard = none) (hr : (execOp a.eval o).run P w = .ok (.comm cases blocking shape) w₁)
    (hs : ∀ fr cs es, stepG P true (G fr cs) w = .comm (G fr cs) cases blocking shape w₁ es → step P (solo (G fr cs) w) = .next (solo (G (fr.finish v) cs) w'))
    (h : InReg P ops rest Q (a.put o.dst v) w') : InReg P ops (i :: rest) Q a w := by
  intro b k cs
  have hw : Region.wanted o (yielded ops a.tmps) = true := by simp [Region.wanted, hg]
  obtain ⟨e, a', w'', hq, harr⟩ := h b k cs
  have hfin : (b.at a (.inRegion ops (i :: rest) :: k)).finish v = b.at (a.put o.dst v) (.inRegion ops rest :: k) := by rw [Frame.finish_at, ho]; rfl
  have hst : ∃ es, stepG P true (G (b.at a (.inRegion ops (i :: rest) :: k)) cs) w = .comm (G (b.at a (.inRegion ops (i :: rest) :: k)) cs) cases blocking shape w₁ es := by
    rw [stepG_oper ho hw]
    simp [stepG.apply, hr, G, Frame.at, GStep.after]
  obtain ⟨es, hst⟩ := hst
  refine ⟨e, a', w'', hq, .of_steps (.one ?_) harr⟩
  rw [lone_eq_solo, lone_eq_solo, ← hfin]
  exact hs _ _ _ hst

/-- a receive from a channel that holds something -/
theorem inReg_recv {c cap s r : Nat} {buf : Array Value} {closed tm : Bool} {z : Value} (ho : ops[i]? = some o) (hg : o.guard = none) (hr : (execOp a.eval o).run P w = .ok (.comm #[rcase c z] true (.recv false)) w)
    (hc : w.heap[c]? = some (.chan cap buf closed s r tm)) (hsome : 0 < buf.size)
    (h : InReg P ops rest Q (a.put o.dst (buf.getD 0 undef)) (w.setChan c cap (buf.extract 1 buf.size) closed s (r + 1) tm)) : InReg P ops (i :: rest) Q a w :=
  inReg_comm ho hg hr (fun _ _ _ hst => step_lone_recv_buf false hst hc hsome) h

/-- a select of a send with room and a receive from the nil channel: the send is taken -/
theorem inReg_select {c cap s r : Nat} {buf : Array Value} {tm : Bool} {x z z' : Value} (ho : ops[i]? = some o) (hg : o.guard = none)
    (hr : (execOp a.eval o).run P w = .ok (.comm #[scase c x z, { chan := .chan none, send := none, zero := z' }] true .select) w)
    (hc : w.heap[c]? = some (.chan cap buf false s r tm)) (hroom : buf.size < cap)
    (h : InReg P ops rest Q (a.put o.dst (.tuple #[goInt 0, .bool false, z'])) (w.setChan c cap (buf.push x) false (s + 1) r tm)) : InReg P ops (i :: rest) Q a w := by
  refine inReg_comm ho hg hr (fun fr cs es hst => ?_) h
  have := step_lone_sel_send_room (k := 0) hst rfl (fun m c' hm hc' => ?_) hc hroom
  · have hcr : commResult #[scase c x z, { chan := .chan none, send := none, zero := z' }] .select ((0 : Nat) : Int) undef false = .tuple #[goInt 0, .bool false, z'] := by simp [commResult, scase, List.zipIdx_cons]
    rw [this, hcr]
  · rcases m with _ | _ | m
    · exact absurd rfl hm
    · simp at hc'; subst hc'; exact noWay_nil none
    · simp at hc'
end Go.Proofs.Qxb6613257a
