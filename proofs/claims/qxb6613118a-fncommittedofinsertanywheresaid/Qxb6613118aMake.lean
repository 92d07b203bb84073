import Derived.Test.Qxb6613118aLeaf
import Derived.BigRegion
import Derived.RegionTactic
namespace Go.Proofs.Qxb6613118a
open Go.RowKit

theorem Try.info41 : (Try.prog.info? 41).map (fun i => (i.zero, i.size, i.bytes)) = some (some (.slice none 0 0), 1, 24) := by kernel_rfl
theorem Try.info38 : (Try.prog.info? 38).map (fun i => (i.zero, i.size, i.bytes)) = some (some (.agg #[.int .u64 0, .int .u64 0, .string ⟨#[]⟩, .slice none 0 0]), 4, 56) := by kernel_rfl
theorem Try.info31 : (Try.prog.info? 31).map (fun i => (i.zero, i.size, i.bytes)) = some (some (.agg #[.int .u64 0, .int .u64 0]), 2, 16) := by kernel_rfl

/-- toRequest gives a request of the same two stamps -/
def Req (e : Ending) (s c : Int) (p : ByteArray) : Prop := ∃ a n m, e = .returned (.agg #[.int .u64 s, .int .u64 c, .string p, .slice a n m])
theorem req (s c : Int) (p : ByteArray) (a : Option Addr) (n m : Nat) : Req (.returned (.agg #[.int .u64 s, .int .u64 c, .string p, .slice a n m])) s c p := ⟨a, n, m, rfl⟩

set_option maxHeartbeats 400000 in
theorem toReq_nil (s c : Int) (p : ByteArray) (m : Nat) (w : World) :
    Calls Try.prog 10 #[.agg #[.int .u64 s, .int .u64 c, .string p, .slice none 0 m]] w fun e w' => Req e s c p ∧ Below w.heap.size w w' := by
  have hnil := fun w => run_neq_slice_nil_any (P := Try.prog) w 32
  go_enter Try.func10, Try.ntmps10
  go_wp2
  refine bodyPost_ret (v := .agg #[.int .u64 s, .int .u64 c, .string p, .slice none 0 0]) (by simp [results, Try.results10, go_sem]) rfl ⟨req _ _ _ _ _ _, ?_⟩
  exact ((Below.refl _ _).alloc (Nat.le_refl _) _).alloc (by simp) _

set_option maxHeartbeats 400000 in
theorem toReq_empty (s c : Int) (p : ByteArray) (a : Addr) (m : Nat) (w : World) :
    Calls Try.prog 10 #[.agg #[.int .u64 s, .int .u64 c, .string p, .slice (some a) 0 m]] w fun e w' => Req e s c p ∧ Below w.heap.size w w' := by
  have hnil := fun w => run_neq_slice_nil_any (P := Try.prog) w 32
  obtain ⟨i41, hi41, hz41, hs41, hb41⟩ := info_parts Try.info41
  go_enter Try.func10, Try.ntmps10
  go_wp2_with (first | (at_make; refine wpList_make_full _ rfl _ _ _ rfl (w.heap.size + 2) _ _ _ _ Try.underlying36 hi41 hz41 hs41 _ _ _ _ 0 rfl rfl rfl rfl (by rw [hb41]; omega) (by unfold maxLen; omega) ?_ ?_))
  · simp
  intro w1 hown hgr
  have hbel := hide (show Below (w.heap.size + 2) _ w1 from (Below.refl _ _).grown hgr (by simp) (by simp))
  clear hown hgr hnil hi41 hz41 hs41 hb41 i41
  have x0 : w1.cell? ⟨w.heap.size, 0, none⟩ = some (.int .u64 s) := by rw [hbel.out.cell (by dsimp only; omega)]; simp
  have x1 : w1.cell? ⟨w.heap.size, 1, none⟩ = some (.int .u64 c) := by rw [hbel.out.cell (by dsimp only; omega)]; simp
  have x2 : w1.cell? ⟨w.heap.size, 2, none⟩ = some (.string p) := by rw [hbel.out.cell (by dsimp only; omega)]; simp
  have x3 : w1.cell? ⟨w.heap.size, 3, none⟩ = some (.slice (some a) 0 m) := by rw [hbel.out.cell (by dsimp only; omega)]; simp
  have y0 : w1.cell? ⟨w.heap.size + 1, 0, none⟩ = some (.int .u64 0) := by rw [hbel.out.cell (by dsimp only; omega)]; simp
  have y1 : w1.cell? ⟨w.heap.size + 1, 1, none⟩ = some (.int .u64 0) := by rw [hbel.out.cell (by dsimp only; omega)]; simp
  have y2 : w1.cell? ⟨w.heap.size + 1, 2, none⟩ = some (.string ⟨#[]⟩) := by rw [hbel.out.cell (by dsimp only; omega)]; simp
  have y3 : w1.cell? ⟨w.heap.size + 1, 3, none⟩ = some (.slice none 0 0) := by rw [hbel.out.cell (by dsimp only; omega)]; simp
  have z0 : w1.frozen? ⟨w.heap.size + 1, 0, none⟩ = false := by rw [hbel.out.frozen (by dsimp only; omega)]; simp
  have z1 : w1.frozen? ⟨w.heap.size + 1, 1, none⟩ = false := by rw [hbel.out.frozen (by dsimp only; omega)]; simp
  have z2 : w1.frozen? ⟨w.heap.size + 1, 2, none⟩ = false := by rw [hbel.out.frozen (by dsimp only; omega)]; simp
  have z3 : w1.frozen? ⟨w.heap.size + 1, 3, none⟩ = false := by rw [hbel.out.frozen (by dsimp only; omega)]; simp
  go_wp2
  refine wp_loop_rounds 1 ?_
  rw [rounds_succ]
  go_wp2
  refine bodyPost_ret (v := .agg #[.int .u64 s, .int .u64 c, .string p, .slice (some ⟨w.heap.size + 1 + 1, 0, none⟩) 0 0]) (by simp [results, Try.results10, go_sem, y0, y1, y2, y3]) rfl ⟨req _ _ _ _ _ _, ?_⟩
  exact ((((((((Below.refl _ _).alloc (Nat.le_refl _) _).alloc (by simp) _).trans (hbel.out.mono (by omega))).setCell (by simp) _).setCell (by simp) _).setCell (by simp) _).setCell (by simp) _)

set_option maxHeartbeats 1000000 in
theorem toReq_some (s c : Int) (p : ByteArray) (b off n m : Nat) (hn : n ≤ 1048576) (w : World) (hb : b < w.heap.size) (hj : ∀ j, j < n → ∃ a' n' m', w.cell? ⟨b, off + j, none⟩ = some (.slice a' n' m')) :
    Calls Try.prog 10 #[.agg #[.int .u64 s, .int .u64 c, .string p, .slice (some ⟨b, off, none⟩) n m]] w fun e w' => Req e s c p ∧ Below w.heap.size w w' := by
  have hnil := fun w => run_neq_slice_nil_any (P := Try.prog) w 32
  obtain ⟨i41, hi41, hz41, hs41, hb41⟩ := info_parts Try.info41
  have HJ := hide hj
  clear hj
  go_enter Try.func10, Try.ntmps10
  go_wp2_with (first | (at_make; refine wpList_make_full _ rfl _ _ _ rfl (w.heap.size + 1 + 1) _ _ _ _ Try.underlying36 hi41 hz41 hs41 _ _ _ _ n rfl rfl rfl rfl (by rw [hb41]; omega) (by unfold maxLen; omega) ?_ ?_))
  · simp
  intro w1 hown hgr
  have hbel : Below (w.heap.size + 1 + 1) _ w1 := (Below.refl _ _).grown hgr (by simp) (by simp)
  have HO : Hid (∃ xs, w1.ownsRow (w.heap.size + 1 + 1) 41 1 (.slice (some ⟨w.heap.size + 1 + 1, 0, none⟩) n n) n xs) := ⟨_, hown⟩
  clear hown hgr hnil hi41 hz41 hs41 hb41 i41
  have x0 : w1.cell? ⟨w.heap.size, 0, none⟩ = some (.int .u64 s) := by rw [hbel.cell (by dsimp only; omega)]; simp
  have x1 : w1.cell? ⟨w.heap.size, 1, none⟩ = some (.int .u64 c) := by rw [hbel.cell (by dsimp only; omega)]; simp
  have x2 : w1.cell? ⟨w.heap.size, 2, none⟩ = some (.string p) := by rw [hbel.cell (by dsimp only; omega)]; simp
  have x3 : w1.cell? ⟨w.heap.size, 3, none⟩ = some (Value.slice (some ⟨b, off, none⟩) n m) := by rw [hbel.cell (by dsimp only; omega)]; simp
  have HB := hide hbel
  clear hbel
  go_wp2
  clear x0 x1 x2 x3
  go_loopw [4] (fun i wr => ∃ k : Nat, k ≤ n ∧ i = .int .i64 k ∧ Hid (∃ xs, wr.ownsRow (w.heap.size + 1 + 1) 41 1 (.slice (some ⟨w.heap.size + 1 + 1, 0, none⟩) n n) n xs) ∧ Below (w.heap.size + 1 + 1) ((w.alloc (.cells #[.int .u64 s, .int .u64 c, .string p, .slice (some ⟨b, off, none⟩) n m] 34)).alloc (.cells #[.int .u64 0, .int .u64 0, .string ⟨#[]⟩, .slice none 0 0] 38)) wr) (fun i _ => n - (intOf i).toNat)
  case atStart => exact ⟨0, Nat.zero_le _, rfl, HO, HB.out⟩
  case round =>
    obtain ⟨k, hk, rfl, HR, hbw⟩ := hrel
    have x0 : wr.cell? ⟨w.heap.size, 0, none⟩ = some (.int .u64 s) := by rw [hbw.cell (by dsimp only; omega)]; simp
    have x1 : wr.cell? ⟨w.heap.size, 1, none⟩ = some (.int .u64 c) := by rw [hbw.cell (by dsimp only; omega)]; simp
    have x2 : wr.cell? ⟨w.heap.size, 2, none⟩ = some (.string p) := by rw [hbw.cell (by dsimp only; omega)]; simp
    have x3 : wr.cell? ⟨w.heap.size, 3, none⟩ = some (Value.slice (some ⟨b, off, none⟩) n m) := by rw [hbw.cell (by dsimp only; omega)]; simp
    by_cases hlt : k < n
    · obtain ⟨a', n', m', hq⟩ := HJ.out k hlt
      have q0 : wr.cell? ⟨b, off + k, none⟩ = some (.slice a' n' m') := by
        rw [hbw.cell (by dsimp only; omega)]
        exact cell_later (((Below.refl _ w).alloc (Nat.le_refl _) _).alloc (by simp) _) hq
      obtain ⟨xs, hown⟩ := HR.out
      have f0 := hown.frozenAt k
      have hlen : xs.length = n * 1 := hown.1
      have r0 : ∃ v, wr.cell? ⟨w.heap.size + 1 + 1, k, none⟩ = some v := ⟨xs[k]'(by omega), by rw [hown.cellAt k (by omega)]; simp⟩
      obtain ⟨v0, r0⟩ := r0
      have HS := hide (hown.stored k (.slice a' n' m')).1
      clear hown hlen hq HO
      go_wp2
      exact ⟨⟨k + 1, by omega, by go_num, ⟨_, HS.out⟩, hbw.setCell (Nat.le_refl _) _⟩, by simp [intOf]; omega⟩
    · obtain rfl : k = n := by omega
      have y0 : wr.cell? ⟨w.heap.size + 1, 0, none⟩ = some (.int .u64 0) := by rw [hbw.cell (by dsimp only; omega)]; simp
      have y1 : wr.cell? ⟨w.heap.size + 1, 1, none⟩ = some (.int .u64 0) := by rw [hbw.cell (by dsimp only; omega)]; simp
      have y2 : wr.cell? ⟨w.heap.size + 1, 2, none⟩ = some (.string ⟨#[]⟩) := by rw [hbw.cell (by dsimp only; omega)]; simp
      have y3 : wr.cell? ⟨w.heap.size + 1, 3, none⟩ = some (.slice none 0 0) := by rw [hbw.cell (by dsimp only; omega)]; simp
      have z0 : wr.frozen? ⟨w.heap.size + 1, 0, none⟩ = false := by rw [hbw.frozen (by dsimp only; omega)]; simp
      have z1 : wr.frozen? ⟨w.heap.size + 1, 1, none⟩ = false := by rw [hbw.frozen (by dsimp only; omega)]; simp
      have z2 : wr.frozen? ⟨w.heap.size + 1, 2, none⟩ = false := by rw [hbw.frozen (by dsimp only; omega)]; simp
      have z3 : wr.frozen? ⟨w.heap.size + 1, 3, none⟩ = false := by rw [hbw.frozen (by dsimp only; omega)]; simp
      have HBW := hide hbw
      clear hbw
      go_wp2
      refine bodyPost_ret (v := .agg #[.int .u64 s, .int .u64 c, .string p, .slice (some ⟨w.heap.size + 1 + 1, 0, none⟩) k k]) (by simp [results, Try.results10, go_sem, y0, y1, y2, y3]) rfl ⟨req _ _ _ _ _ _, ?_⟩
      exact ((((((((Below.refl _ _).alloc (Nat.le_refl _) _).alloc (by simp) _).trans (HBW.out.mono (by omega))).setCell (by simp) _).setCell (by simp) _).setCell (by simp) _).setCell (by simp) _)

theorem toReq_any (s c : Int) (p : ByteArray) (a : Option Addr) (n m : Nat) (hn : n ≤ 1048576) (w : World) (hk : KeysAt w a n) :
    Calls Try.prog 10 #[.agg #[.int .u64 s, .int .u64 c, .string p, .slice a n m]] w fun e w' => Req e s c p ∧ Below w.heap.size w w' := by
  rcases hk with rfl | ⟨b, off, rfl, hb, hj⟩
  · cases a with
    | none => exact toReq_nil s c p m w
    | some a => exact toReq_empty s c p a m w
  · exact toReq_some s c p b off n m hn w hb hj

/-- what holds of the made row behind k rounds: the first k requests are laid -/
def LaidR (w : World) (B n k : Nat) (R : Nat → Com) : Prop :=
  ∃ xs, w.ownsRow B 38 4 (.slice (some ⟨B, 0, none⟩) n n) n xs ∧ ∀ j, j < k → xs[j * 4]? = some (.int .u64 (R j).s) ∧ xs[j * 4 + 1]? = some (.int .u64 (R j).c) ∧
    (∃ p, xs[j * 4 + 2]? = some (.string p)) ∧ ∃ a n m, xs[j * 4 + 3]? = some (.slice a n m)

theorem LaidR.below {w w' : World} {B n k : Nat} {R : Nat → Com} (h : LaidR w B n k R) (hb : Below w.heap.size w w') : LaidR w' B n k R := by
  obtain ⟨xs, hown, hxs⟩ := h
  exact ⟨xs, hown.kept (row := none) ⟨hb.os, hb.tape, hb.output, hb.size, fun k hk _ => hb.block k hk⟩ (.inr (by simp [Value.ownBlock])), hxs⟩

theorem LaidR.step {w : World} {B n k : Nat} {R : Nat → Com} (h : LaidR w B n k R) (hlt : k < n) (p : ByteArray) (a : Option Addr) (q m : Nat) :
    LaidR ((((w.setCell ⟨B, k * 4, none⟩ (.int .u64 (R k).s)).setCell ⟨B, k * 4 + 1, none⟩ (.int .u64 (R k).c)).setCell ⟨B, k * 4 + 2, none⟩ (.string p)).setCell ⟨B, k * 4 + 3, none⟩ (.slice a q m)) B n (k + 1) R := by
  obtain ⟨xs, hown, hxs⟩ := h
  have hlen : xs.length = n * 4 := hown.1
  refine ⟨_, ((((hown.stored _ _).1).stored _ _).1.stored _ _).1.stored _ _ |>.1, fun j hj => ?_⟩
  simp only [List.getElem?_set, List.length_set]
  by_cases hjk : j = k
  · subst hjk
    refine ⟨?_, ?_, ⟨p, ?_⟩, ⟨a, q, m, ?_⟩⟩
    · rw [if_neg (by omega), if_neg (by omega), if_neg (by omega), if_pos rfl, if_pos (by omega)]
    · rw [if_neg (by omega), if_neg (by omega), if_pos rfl, if_pos (by omega)]
    · rw [if_neg (by omega), if_pos rfl, if_pos (by omega)]
    · rw [if_pos rfl, if_pos (by omega)]
  · obtain ⟨g0, g1, ⟨p', g2⟩, ⟨a', n', m', g3⟩⟩ := hxs j (by omega)
    refine ⟨?_, ?_, ⟨p', ?_⟩, ⟨a', n', m', ?_⟩⟩
    · rw [if_neg (by omega), if_neg (by omega), if_neg (by omega), if_neg (by omega)]; exact g0
    · rw [if_neg (by omega), if_neg (by omega), if_neg (by omega), if_neg (by omega)]; exact g1
    · rw [if_neg (by omega), if_neg (by omega), if_neg (by omega), if_neg (by omega)]; exact g2
    · rw [if_neg (by omega), if_neg (by omega), if_neg (by omega), if_neg (by omega)]; exact g3

/-- the requests' cells: commits of the same two stamps -/
def ReqsAt (w : World) (b off n : Nat) (R : Nat → Com) : Prop := ∃ R' : Nat → Com, CellsAt w b off n R' ∧ ∀ j, j < n → (R' j).s = (R j).s ∧ (R' j).c = (R j).c

theorem ReqsAt.below {w w' : World} {b off n B : Nat} {R : Nat → Com} (h : ReqsAt w b off n R) (hb : Below B w w') (hB : b < B) : ReqsAt w' b off n R := by
  obtain ⟨R', h1, h2⟩ := h
  exact ⟨R', h1.below hb hB, h2⟩

theorem LaidR.cells {w : World} {B n : Nat} {R : Nat → Com} (h : LaidR w B n n R) : ReqsAt w B 0 n R := by
  obtain ⟨xs, hown, hxs⟩ := h
  have each : ∀ j, ∃ r : Com, j < n → r.s = (R j).s ∧ r.c = (R j).c ∧ xs[j * 4 + 2]? = some (.string r.p) ∧ xs[j * 4 + 3]? = some (.slice r.a r.n r.m) := fun j => by
    by_cases hj : j < n
    · obtain ⟨_, _, ⟨p, g2⟩, ⟨a, q, m, g3⟩⟩ := hxs j hj
      exact ⟨⟨(R j).s, (R j).c, p, a, q, m⟩, fun _ => ⟨rfl, rfl, g2, g3⟩⟩
    · exact ⟨R j, fun h => absurd h hj⟩
  refine ⟨fun j => Classical.choose (each j), ⟨(hown.lt B rfl).2, fun j hj => ?_⟩, fun j hj => ?_⟩
  · obtain ⟨e1, e2, e3, e4⟩ := Classical.choose_spec (each j) hj
    obtain ⟨g0, g1, _, _⟩ := hxs j hj
    simp only [Nat.zero_add]
    rw [e1, e2]
    exact ⟨by rw [hown.cellAt _ (by omega)]; exact g0, by rw [hown.cellAt _ (by omega)]; exact g1, by rw [hown.cellAt _ (by omega)]; exact e3, by rw [hown.cellAt _ (by omega)]; exact e4⟩
  · obtain ⟨e1, e2, _, _⟩ := Classical.choose_spec (each j) hj
    exact ⟨e1, e2⟩

set_option maxHeartbeats 1000000 in
theorem toReqs_some (b off n c : Nat) (R : Nat → Com) (hm : n ≤ 1048576) (hf : Few n R) (w : World) (hc : CellsAt w b off n R) (hk : AllKeys w n R) :
    Calls Try.prog 7 #[.slice (some ⟨b, off, none⟩) n c] w fun e w' => e = .returned (.slice (some ⟨w.heap.size, 0, none⟩) n n) ∧ LaidR w' w.heap.size n n R ∧ Below w.heap.size w w' := by
  have HC := hide hc
  have HK := hide hk
  have HF := hide hf
  have hbs := hc.1
  clear hc hk hf
  have hnil := fun w => Lib.run_eql_slice_nil (P := Try.prog) w 22
  obtain ⟨i38, hi38, hz38, hs38, hb38⟩ := info_parts Try.info38
  go_enter Try.func7, Try.ntmps7
  go_wp2_with (first | (at_make; refine wpList_make_full _ rfl _ _ _ rfl w.heap.size _ _ _ _ Try.underlying25 hi38 hz38 hs38 _ _ _ _ n rfl rfl rfl rfl (by rw [hb38]; omega) (by unfold maxLen; omega) (Nat.le_refl _) ?_))
  intro w1 hown hgr
  have hbel : Below w.heap.size w w1 := (Below.refl _ _).grown hgr (Nat.le_refl _) (by simp)
  have HO : Hid (LaidR w1 w.heap.size n 0 R) := ⟨_, hown, fun j hj => absurd hj (Nat.not_lt_zero _)⟩
  clear hown hgr hnil hi38 hz38 hs38 hb38 i38
  go_wp2
  go_loopw [4] (fun i wr => ∃ k : Nat, k ≤ n ∧ i = .int .i64 k ∧ Hid (LaidR wr w.heap.size n k R) ∧ Below w.heap.size w wr) (fun i _ => n - (intOf i).toNat)
  case atStart => exact ⟨0, Nat.zero_le _, rfl, HO, hbel⟩
  case round =>
    clear hbel HO
    obtain ⟨k, hk, rfl, HR, hbw⟩ := hrel
    by_cases hlt : k < n
    · obtain ⟨q0, q1, q2, q3⟩ := (HC.out.below hbw hbs).2 k hlt
      have hkk := ((HK.out.below hbw) k hlt).1
      have hkn := HF.out k hlt
      have HKK := hide hkk
      clear hkk
      have hsz : w.heap.size < wr.heap.size := by obtain ⟨xs, hown, _⟩ := HR.out; exact (hown.lt _ rfl).2
      go_wp2_with fail
      refine (toReq_any _ _ _ _ _ _ hkn _ HKK.out).mono ?_
      rintro e w2 ⟨⟨a', n', m', rfl⟩, hb2⟩
      have HR2 := hide (HR.out.below hb2)
      obtain ⟨xs, hown, hxs⟩ := HR2.out
      have f0 := hown.frozenAt (k * 4)
      have f1 := hown.frozenAt (k * 4 + 1)
      have f2 := hown.frozenAt (k * 4 + 2)
      have f3 := hown.frozenAt (k * 4 + 3)
      have hlen : xs.length = n * 4 := hown.1
      have r0 : ∃ v, w2.cell? ⟨w.heap.size, k * 4, none⟩ = some v := ⟨xs[k * 4]'(by omega), by rw [hown.cellAt _ (by omega)]; simp⟩
      have r1 : ∃ v, w2.cell? ⟨w.heap.size, k * 4 + 1, none⟩ = some v := ⟨xs[k * 4 + 1]'(by omega), by rw [hown.cellAt _ (by omega)]; simp⟩
      have r2 : ∃ v, w2.cell? ⟨w.heap.size, k * 4 + 2, none⟩ = some v := ⟨xs[k * 4 + 2]'(by omega), by rw [hown.cellAt _ (by omega)]; simp⟩
      have r3 : ∃ v, w2.cell? ⟨w.heap.size, k * 4 + 3, none⟩ = some v := ⟨xs[k * 4 + 3]'(by omega), by rw [hown.cellAt _ (by omega)]; simp⟩
      obtain ⟨v0, r0⟩ := r0
      obtain ⟨v1, r1⟩ := r1
      obtain ⟨v2, r2⟩ := r2
      obtain ⟨v3, r3⟩ := r3
      have hb12 := hide (hbw.trans (hb2.mono (by omega)))
      clear hown hxs hlen hb2 q0 q1 q2 q3 hbw
      go_wp2
      exact ⟨⟨k + 1, by omega, by go_num, HR2.out.step hlt _ _ _ _, ((((hb12.out.setCell (Nat.le_refl _) _).setCell (Nat.le_refl _) _).setCell (Nat.le_refl _) _).setCell (Nat.le_refl _) _)⟩, by simp [intOf]; omega⟩
    · obtain rfl : k = n := by omega
      go_wp2
      go_ret
      exact ⟨rfl, HR.out, hbw⟩

end Go.Proofs.Qxb6613118a
