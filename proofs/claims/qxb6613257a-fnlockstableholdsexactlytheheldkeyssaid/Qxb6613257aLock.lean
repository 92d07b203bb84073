import Derived.Test.Qxb6613257aLeave
import Derived.Laws.EntriesVeiled
namespace Go.Proofs.Qxb6613257a
open Go.RowKit

theorem Try.info38 : (Try.prog.info? 38).map (fun i => (i.zero, i.size, i.bytes)) = some (some (.agg #[]), 0, 0) := by kernel_rfl

theorem info_some {t : TypeId} {z : Option Value} {n m : Nat} (h : (Try.prog.info? t).map (fun i => (i.zero, i.size, i.bytes)) = some (z, n, m)) : ∃ i, Try.prog.info? t = some i ∧ i.bytes = m := by
  cases hi : Try.prog.info? t with
  | none => rw [hi] at h; simp at h
  | some i => rw [hi] at h; simp at h; exact ⟨i, rfl, h.2.2⟩

theorem lt_of {w : World} {i : Nat} {o : Obj} (h : w.heap[i]? = some o) : i < w.heap.size := (Array.getElem?_eq_some_iff.1 h).1

theorem new_of {w : World} {i : Nat} {o : Obj} (h : i = w.heap.size) : (w.alloc o).heap[i]? = some o := by
  subst h
  show (w.heap.push o)[w.heap.size]? = _
  simp

theorem mkChan (w : World) : (Instr.makeChan 54 (.int .i64 1)).run Try.prog w = .ok (.chan (some w.heap.size)) (w.alloc (.chan 1 #[] false 0 0 false)) := by
  obtain ⟨i, hi, hb⟩ := info_some Try.info38
  exact Conc.run_makeChan (n := 1) Try.underlying54 hi .i64 (by omega) (by rw [hb]; simp)

theorem method_done (w : World) : (method 207 62 (.agg #[]) "Done").run Try.prog w = .ok (50, .agg #[]) w := by kernel_rfl

theorem done (w : World) :
    Calls Try.prog 50 #[.agg #[]] w fun e w' => e = .returned (.chan none) ∧ w' = w.alloc (.cells #[] 60) := by
  go_enter Try.func50, Try.ntmps50
  go_wp2
  go_ret
  exact ⟨rfl, rfl⟩


set_option maxHeartbeats 2000000 in
theorem lockL {w : World} {L M c : Nat} {k : ByteArray} {tab : List Ent} {es : Array MapEntry} (hL : LocksAt w L M 0) (hM : w.heap[M]? = some (.map es c)) (ht : Tab es.toList tab) (hk : ∀ e ∈ tab, e.key.toList ≠ k.toList) :
    Calls Try.prog 11 #[.pointer (some ⟨L, 0, none⟩), .iface 62 (.agg #[]), .string k] w fun x w' => x = .returned (.tuple #[(⟨k, w.heap.size⟩ : Ent).free, .nilIface]) ∧
      w'.heap[M]? = some (.map (es.push { key := .string k, val := .pointer (some ⟨w.heap.size + 4, 0, none⟩), born := c }) (c + 1)) ∧ EntAt w' L ⟨k, w.heap.size⟩ ∧ Only [M] w w' := by
  have nLM : L ≠ M := ne_of hL hM (by simp)
  have hLs : L < w.heap.size := lt_of hL
  have hMs : M < w.heap.size := lt_of hM
  have HT := hide (And.intro ht hk)
  have N := hide (And.intro nLM (And.intro hLs hMs))
  have H := hide (And.intro hL hM)
  clear ht hk hL hM nLM hLs hMs
  have O0 : Only [] w ((w.alloc (.cells #[.pointer (some ⟨L, 0, none⟩)] 24)).alloc (.cells #[.string k] 9)) := ((Only.refl _ w).alloc _).alloc _
  have l0 := LocksAt.c0 (O0.get H.out.1 (by simp))
  have lf := LocksAt.f (O0.get H.out.1 (by simp)) 0
  have HO0 := hide O0
  clear O0
  go_enter Try.func11, Try.ntmps11
  go_wp2_with fail
  refine (mlock ⟨L, 0, none⟩ ((w.alloc (.cells #[.pointer (some ⟨L, 0, none⟩)] 24)).alloc (.cells #[.string k] 9)) l0 lf).mono ?_
  rintro e w1 ⟨rfl, hw1⟩
  clear l0 lf
  have O1 := HO0.out
  have hs1 : w1.heap.size = w.heap.size + 2 := by rw [hw1]; simp [World.setCell]
  obtain ⟨nLM, hLs, hMs⟩ := N.out
  have hL1 : LocksAt w1 L M 1 := by rw [hw1]; exact heap_set _ (O1.get H.out.1 (by simp))
  have hM1 : w1.heap[M]? = some (.map es c) := by rw [hw1, Below.heap_setCell _ _ _ _ nLM.symm]; exact O1.get H.out.2 (by simp)
  have b0 : w1.heap[w.heap.size]? = some (.cells #[.pointer (some ⟨L, 0, none⟩)] 24) := by
    rw [hw1, Below.heap_setCell _ _ _ _ (Nat.ne_of_gt hLs), Below.heap_alloc _ _ _ (by simp)]; exact new_of rfl
  have b1 : w1.heap[w.heap.size + 1]? = some (.cells #[.string k] 9) := by
    rw [hw1, Below.heap_setCell _ _ _ _ (by dsimp only; omega)]; exact new_of (by simp)
  have OO1 := hide (show Only [L] w w1 from by rw [hw1]; exact (O1.mono (by simp)).setCell (by simp) _)
  have H1 := hide (And.intro hL1 (And.intro hM1 (And.intro b0 b1)))
  clear O1 hw1 nLM hLs hMs hL1 hM1 b0 b1
  have x0 : w1.cell? ⟨w.heap.size, 0, none⟩ = some (.pointer (some ⟨L, 0, none⟩)) := cell_of H1.out.2.2.1 (by rfl)
  have x1 : w1.cell? ⟨w.heap.size + 1, 0, none⟩ = some (.string k) := cell_of H1.out.2.2.2 (by rfl)
  have l2 := H1.out.1.c2
  have hl := look_none (w := w1.drew) H1.out.2.1 HT.out.1 HT.out.2 false
  have A1 : Only [] w1 (w1.alloc (.cells #[.pointer none] 47)) := (Only.refl _ w1).alloc _
  have l2' := LocksAt.c2 (A1.get H1.out.1 (by simp))
  have hl' := look_none (w := (w1.alloc (.cells #[.pointer none] 47)).drew) (A1.get H1.out.2.1 (by simp)) HT.out.1 HT.out.2 false
  clear A1
  go_wp2_with fail
  go_region
  all_goals
    clear x0 x1 l2 hl l2' hl'
    generalize hw2 : (w1.alloc (.cells #[.pointer none] 47)).drew = w2
    have hs2 : w2.heap.size = w.heap.size + 3 := by rw [← hw2]; simp [hs1]
    obtain ⟨hL, hM, b0, b1⟩ := H1.out
    have A2 : Only [] w1 w2 := by rw [← hw2]; exact ((Only.refl _ w1).alloc _).drew
    have b2 : w2.heap[w.heap.size + 2]? = some (.cells #[.pointer none] 47) := by rw [← hw2]; exact new_of (w := w1) (by simp [hs1])
    have OO2 := hide (OO1.out.trans (A2.mono (by simp)))
    have H2 := hide (And.intro (show LocksAt w2 L M 1 from A2.get hL (by simp)) (And.intro (A2.get hM (by simp)) (And.intro (A2.get b0 (by simp)) (And.intro (A2.get b1 (by simp)) b2))))
    clear hL hM b0 b1 A2 b2 hw2 hs1 H1 OO1
    have y2 : w2.cell? ⟨w.heap.size + 2, 0, none⟩ = some (.pointer none) := cell_of H2.out.2.2.2.2 (by rfl)
    have z2 := frozen_of H2.out.2.2.2.2 0
    have hmk := mkChan
    go_wp2_with fail
    clear y2 z2 hmk
    simp only [show w.heap.size + 3 + 1 = w.heap.size + 4 from rfl]
    generalize hw3 : (((w2.setCell ⟨w.heap.size + 2, 0, none⟩ (.pointer (some ⟨w.heap.size + 4, 0, none⟩))).alloc (.chan 1 #[] false 0 0 false)).alloc (.cells #[.chan (some (w.heap.size + 3)), .int .i64 0] 56)) = w3
    have hs3 : w3.heap.size = w.heap.size + 5 := by rw [← hw3]; simp [World.setCell, hs2]
    obtain ⟨hL, hM, b0, b1, b2⟩ := H2.out
    have A3 : Only [w.heap.size + 2] w2 w3 := by rw [← hw3]; exact (((Only.refl _ w2).setCell (by simp) _).alloc _).alloc _
    have c2 : w3.heap[w.heap.size + 2]? = some (.cells #[.pointer (some ⟨w.heap.size + 4, 0, none⟩)] 47) := by
      rw [← hw3, Below.heap_alloc _ _ _ (by simp [World.setCell, hs2]), Below.heap_alloc _ _ _ (by simp [World.setCell, hs2])]; exact heap_set _ b2
    have c3 : w3.heap[w.heap.size + 3]? = some (.chan 1 #[] false 0 0 false) := by
      rw [← hw3, Below.heap_alloc _ _ _ (by simp [World.setCell, hs2])]; exact new_of (by simp [World.setCell, hs2])
    have c4 : w3.heap[w.heap.size + 4]? = some (.cells #[.chan (some (w.heap.size + 3)), .int .i64 0] 56) := by
      rw [← hw3]; exact new_of (by simp [World.setCell, hs2])
    have OO3 := hide (show Only [L] w w3 from by rw [← hw3]; exact (((OO2.out).setNew (by simp) _).alloc _).alloc _)
    have nL : L ∉ [w.heap.size + 2] := by have := N.out; simp; omega
    have nM : M ∉ [w.heap.size + 2] := by have := N.out; simp; omega
    have H3 := hide (And.intro (show LocksAt w3 L M 1 from A3.get hL nL) (And.intro (A3.get hM nM) (And.intro (A3.get b0 (by simp)) (And.intro (A3.get b1 (by simp)) (And.intro c2 (And.intro c3 c4))))))
    clear hL hM b0 b1 b2 A3 c2 c3 c4 nL nM hw3 hs2 H2 OO2
    have y0 : w3.cell? ⟨w.heap.size, 0, none⟩ = some (.pointer (some ⟨L, 0, none⟩)) := cell_of H3.out.2.2.1 (by rfl)
    have y1 : w3.cell? ⟨w.heap.size + 1, 0, none⟩ = some (.string k) := cell_of H3.out.2.2.2.1 (by rfl)
    have y2 : w3.cell? ⟨w.heap.size + 2, 0, none⟩ = some (.pointer (some ⟨w.heap.size + 4, 0, none⟩)) := cell_of H3.out.2.2.2.2.1 (by rfl)
    have l2 := H3.out.1.c2
    have hup := update_new (w := w3.drew) (v := .pointer (some ⟨w.heap.size + 4, 0, none⟩)) H3.out.2.1 HT.out.1 HT.out.2
    go_region
    clear y0 y1 y2 l2 hup
    generalize hw4 : putB w3.drew M _ = w4
    obtain ⟨hL, hM, b0, b1, b2, b3, b4⟩ := H3.out
    have hs4 : w4.heap.size = w.heap.size + 5 := by rw [← hw4]; simp [putB, hs3]
    have A4 : Only [M] w3 w4 := by rw [← hw4]; exact ((Only.refl _ w3).drew).setBlock (by simp) _
    have c5 : w4.heap[M]? = some (.map (es.push { key := .string k, val := .pointer (some ⟨w.heap.size + 4, 0, none⟩), born := c }) (c + 1)) := by rw [← hw4]; exact heap_put (w := w3.drew) _ hM
    have OO4 := hide ((OO3.out.mono (T := [L, M]) (by simp)).trans (A4.mono (by simp)))
    have hMs := N.out.2.2
    have H4 := hide (And.intro (show LocksAt w4 L M 1 from A4.get hL (by simpa using N.out.1)) (And.intro c5 (And.intro (A4.get b0 (by simp; omega)) (And.intro (A4.get b1 (by simp; omega)) (And.intro (A4.get b2 (by simp; omega)) (And.intro (A4.get b3 (by simp; omega)) (A4.get b4 (by simp; omega))))))))
    clear hL hM b0 b1 b2 b3 b4 A4 c5 hMs hw4 hs3 H3 OO3
    have y0 : w4.cell? ⟨w.heap.size, 0, none⟩ = some (.pointer (some ⟨L, 0, none⟩)) := cell_of H4.out.2.2.1 (by rfl)
    have y2 : w4.cell? ⟨w.heap.size + 2, 0, none⟩ = some (.pointer (some ⟨w.heap.size + 4, 0, none⟩)) := cell_of H4.out.2.2.2.2.1 (by rfl)
    have y4 : w4.cell? ⟨w.heap.size + 4, 1, none⟩ = some (.int .i64 0) := cell_of H4.out.2.2.2.2.2.2 (by rfl)
    have z4 := frozen_of H4.out.2.2.2.2.2.2 1
    go_wp2_with fail
    clear y0 y2 y4 z4
    generalize hw5 : w4.setCell ⟨w.heap.size + 4, 1, none⟩ (.int .i64 1) = w5
    have hs5 : w5.heap.size = w.heap.size + 5 := by rw [← hw5]; simp [World.setCell, hs4]
    obtain ⟨hL, hM, b0, b1, b2, b3, b4⟩ := H4.out
    have A5 : Only [w.heap.size + 4] w4 w5 := by rw [← hw5]; exact (Only.refl _ w4).setCell (by simp) _
    have c4 : w5.heap[w.heap.size + 4]? = some (.cells #[.chan (some (w.heap.size + 3)), .int .i64 1] 56) := by rw [← hw5]; exact heap_set _ b4
    have OO5 := hide (show Only [L, M] w w5 from by rw [← hw5]; exact OO4.out.setNew (by simp) _)
    have nL : L ∉ [w.heap.size + 4] := by have := N.out; simp; omega
    have nM : M ∉ [w.heap.size + 4] := by have := N.out; simp; omega
    have H5 := hide (And.intro (show LocksAt w5 L M 1 from A5.get hL nL) (And.intro (A5.get hM nM) (And.intro (A5.get b0 (by simp)) (And.intro (A5.get b1 (by simp)) (And.intro (A5.get b2 (by simp)) (And.intro (A5.get b3 (by simp)) c4))))))
    clear hL hM b0 b1 b2 b3 b4 A5 c4 nL nM hw5 hs4 H4 OO4
    refine (munlock ⟨L, 0, none⟩ w5 H5.out.1.c0 (H5.out.1.f 0)).mono ?_
    rintro e w6 ⟨rfl, hw6⟩
    have hs6 : w6.heap.size = w.heap.size + 5 := by rw [hw6]; simp [World.setCell, hs5]
    obtain ⟨hL, hM, b0, b1, b2, b3, b4⟩ := H5.out
    have A6 : Only [L] w5 w6 := by rw [hw6]; exact (Only.refl _ w5).setCell (by simp) _
    have hL6 : LocksAt w6 L M 0 := by rw [hw6]; exact heap_set _ hL
    have OO6 : Only [M] w w6 := by
      have O' := OO5.out.trans (A6.mono (T := [L, M]) (by simp))
      refine ⟨O'.os, O'.tape, O'.output, O'.size, fun i hi hS => ?_⟩
      by_cases hiL : i = L
      · rw [hiL]; exact hL6.trans H.out.1.symm
      · exact O'.block i hi (by simp at hS ⊢; exact ⟨hiL, hS⟩)
    have OO6' := hide OO6
    have hLs := N.out.2.1
    have nM : M ∉ [L] := by simpa using N.out.1.symm
    have H6 := hide (And.intro hL6 (And.intro (A6.get hM nM) (And.intro (A6.get b0 (by simp; omega)) (And.intro (A6.get b1 (by simp; omega)) (And.intro (A6.get b2 (by simp; omega)) (And.intro (A6.get b3 (by simp; omega)) (A6.get b4 (by simp; omega))))))))
    clear hL hM b0 b1 b2 b3 b4 A6 hL6 OO6 nM hLs hw6 hs5 H5 OO5
    have hn := new_of (w := w6) (i := w.heap.size + 5) (o := .cells #[.func (.func 15) #[] #[.pointer (some ⟨w.heap.size, 0, none⟩), .pointer (some ⟨w.heap.size + 2, 0, none⟩), .pointer (some ⟨w.heap.size + 1, 0, none⟩)]] 1) hs6.symm
    have A7 : Only [] w6 (w6.alloc (.cells #[.func (.func 15) #[] #[.pointer (some ⟨w.heap.size, 0, none⟩), .pointer (some ⟨w.heap.size + 2, 0, none⟩), .pointer (some ⟨w.heap.size + 1, 0, none⟩)]] 1)) := (Only.refl _ w6).alloc _
    have y2 : (w6.alloc (.cells #[.func (.func 15) #[] #[.pointer (some ⟨w.heap.size, 0, none⟩), .pointer (some ⟨w.heap.size + 2, 0, none⟩), .pointer (some ⟨w.heap.size + 1, 0, none⟩)]] 1)).cell? ⟨w.heap.size + 2, 0, none⟩ = some (.pointer (some ⟨w.heap.size + 4, 0, none⟩)) := cell_of (A7.get H6.out.2.2.2.2.1 (by simp)) (by rfl)
    have y4 : (w6.alloc (.cells #[.func (.func 15) #[] #[.pointer (some ⟨w.heap.size, 0, none⟩), .pointer (some ⟨w.heap.size + 2, 0, none⟩), .pointer (some ⟨w.heap.size + 1, 0, none⟩)]] 1)).cell? ⟨w.heap.size + 4, 0, none⟩ = some (.chan (some (w.heap.size + 3))) := cell_of (A7.get H6.out.2.2.2.2.2.2 (by simp)) (by rfl)
    have H7 := hide (And.intro (A7.get H6.out.2.1 (by simp)) (And.intro (A7.get H6.out.2.2.1 (by simp)) (And.intro (A7.get H6.out.2.2.2.1 (by simp)) (And.intro (A7.get H6.out.2.2.2.2.1 (by simp)) (And.intro (A7.get H6.out.2.2.2.2.2.1 (by simp)) (And.intro (A7.get H6.out.2.2.2.2.2.2 (by simp)) hn))))))
    have OO7 := hide (OO6'.out.trans (A7.mono (by simp)))
    clear A7 hn H6 OO6'
    have hme := method_done
    go_wp2_with fail
    generalize hw7 : w6.alloc _ = w7 at *
    clear y2 y4 hme
    refine (done w7).mono ?_
    rintro e w8 ⟨rfl, hw8⟩
    rename_i Ka ha Kb hb
    refine hb _ _ (wpList_nil (ha _ _ ?_))
    have A8 : Only [] w7 w8 := by rw [hw8]; exact (Only.refl _ w7).alloc _
    have b3 := A8.get H7.out.2.2.2.2.1 (by simp)
    have HA8 := hide A8
    clear A8 hw8
    refine wp_seq_k fun K hK => wp_inReg ?_
    simp only [List.size_toArray, List.length_cons, List.length_nil, Nat.reduceAdd, Nat.zero_add, List.range, List.range.loop]
    refine inReg_select (i := 0) (c := w.heap.size + 3) (x := .agg #[]) (z := .agg #[]) (z' := .agg #[]) rfl rfl ?_ b3 (by simp) ?_
    · simp [execOp, Conc.scase, Act.eval, go_sem]
    clear b3
    generalize hw9 : w8.setChan _ _ _ _ _ _ _ = w9
    refine inReg_value (i := 1) rfl rfl (v := .int .i64 0) (w' := w9) (by simp [execOp, Act.eval, Act.put, go_sem]) ?_
    refine inReg_value (i := 2) rfl rfl (v := .bool true) (w' := w9) (by simp [execOp, Act.eval, Act.put, go_sem]) ?_
    refine inReg_value (i := 3) rfl rfl (v := .bool false) (w' := w9) (by simp [execOp, Act.eval, Act.put, go_sem]) ?_
    refine inReg_rest (hK _ _ ?_)
    clear hK K
    go_wp2_with fail
    have A9 : Only [w.heap.size + 3] w8 w9 := by rw [← hw9]; exact (Only.refl _ w8).setChan (by simp) _ _ _ _ _ _
    have A79 := (HA8.out.mono (T := [w.heap.size + 3]) (by simp)).trans A9
    have c3 : w9.heap[w.heap.size + 3]? = some (.chan 1 #[.agg #[]] false 1 0 false) := by rw [← hw9]; exact chan_get (HA8.out.get H7.out.2.2.2.2.1 (by simp)) _ _ _ _ _ _
    have OO9 : Only [M] w w9 := by rw [← hw9]; exact (OO7.out.trans (HA8.out.mono (by simp))).setChanNew (by simp) _ _ _ _ _ _
    obtain ⟨hM, b0, b1, b2, b3, b4, b5⟩ := H7.out
    have hMs := N.out.2.2
    have nM : M ∉ [w.heap.size + 3] := by simp; omega
    go_ret2
    refine ⟨rfl, A79.get hM nM, ⟨A79.get b0 (by simp), A79.get b1 (by simp), A79.get b2 (by simp), c3, A79.get b4 (by simp), A79.get b5 (by simp)⟩, OO9⟩
end Go.Proofs.Qxb6613257a
