import Derived.Test.Qxb6613118aMake
namespace Go.Proofs.Qxb6613118a
open Go.RowKit

set_option maxHeartbeats 400000 in
theorem toReqs_nil (w : World) :
    Calls Try.prog 7 #[.slice none 0 0] w fun e w' => e = .returned (.slice none 0 0) ∧ w' = w := by
  have hnil := fun w => Lib.run_eql_slice_nil (P := Try.prog) w 22
  go_enter Try.func7, Try.ntmps7
  go_wp2
  go_ret
  exact ⟨rfl, rfl⟩

set_option maxHeartbeats 400000 in
theorem toReqs_empty (a : Addr) (c : Nat) (w : World) :
    Calls Try.prog 7 #[.slice (some a) 0 c] w fun e w' => e = .returned (.slice (some ⟨w.heap.size, 0, none⟩) 0 0) ∧ Below w.heap.size w w' := by
  have hnil := fun w => Lib.run_eql_slice_nil (P := Try.prog) w 22
  obtain ⟨i38, hi38, hz38, hs38, hb38⟩ := info_parts Try.info38
  go_enter Try.func7, Try.ntmps7
  go_wp2_with (first | (at_make; refine wpList_make_full _ rfl _ _ _ rfl w.heap.size _ _ _ _ Try.underlying25 hi38 hz38 hs38 _ _ _ _ 0 rfl rfl rfl rfl (by rw [hb38]; omega) (by unfold maxLen; omega) (Nat.le_refl _) ?_))
  intro w1 hown hgr
  have hbel : Below w.heap.size w w1 := (Below.refl _ _).grown hgr (Nat.le_refl _) (by simp)
  clear hown hgr hnil hi38 hz38 hs38 hb38 i38
  go_wp2
  refine wp_loop_rounds 1 ?_
  rw [rounds_succ]
  go_wp2
  go_ret
  exact ⟨rfl, hbel⟩

/-- no commits are named by nil -/
theorem toReqs_zero (ao : Option Addr) (c : Nat) (hn : ao = none → c = 0) (w : World) :
    Calls Try.prog 7 #[.slice ao 0 c] w fun e w' => ∃ ao', e = .returned (.slice ao' 0 0) ∧ Below w.heap.size w w' := by
  cases ao with
  | none =>
    obtain rfl := hn rfl
    refine (toReqs_nil w).mono ?_
    rintro e w' ⟨rfl, rfl⟩
    exact ⟨none, rfl, Below.refl _ _⟩
  | some a =>
    refine (toReqs_empty a c w).mono ?_
    rintro e w' ⟨rfl, hb⟩
    exact ⟨_, rfl, hb⟩

set_option maxHeartbeats 400000 in
theorem named_zero (ao : Option Addr) (c : Nat) (w : World) :
    Calls Try.prog 8 #[.slice ao 0 c] w fun e w' => e = .returned (.slice none 0 0) ∧ w' = w := by
  go_enter Try.func8, Try.ntmps8
  go_wp2
  go_ret
  exact ⟨rfl, rfl⟩

/-- behind k rounds the first k names are laid -/
def LaidN (w : World) (B n k : Nat) (R : Nat → Com) : Prop :=
  ∃ xs, w.ownsRow B 31 2 (.slice (some ⟨B, 0, none⟩) n n) n xs ∧ ∀ j, j < k → xs[j * 2]? = some (.int .u64 (R j).s) ∧ xs[j * 2 + 1]? = some (.int .u64 (R j).c)

theorem LaidN.step {w : World} {B n k : Nat} {R : Nat → Com} (h : LaidN w B n k R) (hlt : k < n) :
    LaidN ((w.setCell ⟨B, k * 2, none⟩ (.int .u64 (R k).s)).setCell ⟨B, k * 2 + 1, none⟩ (.int .u64 (R k).c)) B n (k + 1) R := by
  obtain ⟨xs, hown, hxs⟩ := h
  have hlen : xs.length = n * 2 := hown.1
  refine ⟨_, ((hown.stored _ _).1.stored _ _).1, fun j hj => ?_⟩
  simp only [List.getElem?_set, List.length_set]
  by_cases hjk : j = k
  · subst hjk
    refine ⟨?_, ?_⟩
    · rw [if_neg (by omega), if_pos rfl, if_pos (by omega)]
    · rw [if_pos rfl, if_pos (by omega)]
  · obtain ⟨g0, g1⟩ := hxs j (by omega)
    refine ⟨?_, ?_⟩
    · rw [if_neg (by omega), if_neg (by omega)]; exact g0
    · rw [if_neg (by omega), if_neg (by omega)]; exact g1

theorem LaidN.alloc {w : World} {B n k : Nat} {R : Nat → Com} (h : LaidN w B n k R) (o : Obj) : LaidN (w.alloc o) B n k R := by
  obtain ⟨xs, hown, hxs⟩ := h
  exact ⟨xs, hown.alloc o, hxs⟩

/-- n names, two cells each, from ⟨b, 0⟩ on -/
def NamesAt (w : World) (b n : Nat) (R : Nat → Com) : Prop :=
  b < w.heap.size ∧ ∀ j, j < n → w.cell? ⟨b, j * 2, none⟩ = some (.int .u64 (R j).s) ∧ w.cell? ⟨b, j * 2 + 1, none⟩ = some (.int .u64 (R j).c)

theorem LaidN.cells {w : World} {B n : Nat} {R : Nat → Com} (h : LaidN w B n n R) : NamesAt w B n R := by
  obtain ⟨xs, hown, hxs⟩ := h
  refine ⟨(hown.lt B rfl).2, fun j hj => ?_⟩
  obtain ⟨g0, g1⟩ := hxs j hj
  exact ⟨by rw [hown.cellAt _ (by omega)]; exact g0, by rw [hown.cellAt _ (by omega)]; exact g1⟩

theorem NamesAt.below {w w' : World} {b n B : Nat} {R : Nat → Com} (h : NamesAt w b n R) (hb : Below B w w') (hB : b < B) : NamesAt w' b n R := by
  obtain ⟨h2, h3⟩ := h
  refine ⟨Nat.lt_of_lt_of_le h2 hb.size, fun j hj => ?_⟩
  obtain ⟨g0, g1⟩ := h3 j hj
  exact ⟨by rw [hb.cell (by exact hB)]; exact g0, by rw [hb.cell (by exact hB)]; exact g1⟩

set_option maxHeartbeats 1000000 in
theorem named_core (b off n c : Nat) (R : Nat → Com) (h0 : 0 < n) (hm : n ≤ 1048577) (w : World) (hc : CellsAt w b off n R) :
    Calls Try.prog 11 #[.slice (some ⟨b, off, none⟩) n c] w fun e w' => e = .returned (.slice (some ⟨w.heap.size, 0, none⟩) n n) ∧ NamesAt w' w.heap.size n R ∧ Below w.heap.size w w' := by
  have HC := hide hc
  have hbs := hc.1
  clear hc
  have hne : ((n : Int) == 0) = false := by simp; omega
  obtain ⟨i31, hi31, hz31, hs31, hb31⟩ := info_parts Try.info31
  go_enter Try.func11, Try.ntmps11
  go_wp2_with (first | (at_make; refine wpList_make_full _ rfl _ _ _ rfl w.heap.size _ _ _ _ Try.underlying27 hi31 hz31 hs31 _ _ _ _ n rfl rfl rfl rfl (by rw [hb31]; omega) (by unfold maxLen; omega) (Nat.le_refl _) ?_))
  intro w1 hown hgr
  have hbel : Below w.heap.size w w1 := (Below.refl _ _).grown hgr (Nat.le_refl _) (by simp)
  have HO : Hid (LaidN w1 w.heap.size n 0 R) := ⟨_, hown, fun j hj => absurd hj (Nat.not_lt_zero _)⟩
  clear hown hgr hi31 hz31 hs31 hb31 i31
  go_wp2
  go_loopw [14] (fun i wr => ∃ k : Nat, k ≤ n ∧ i = .int .i64 k ∧ Hid (LaidN wr w.heap.size n k R) ∧ Below w.heap.size w wr) (fun i _ => n - (intOf i).toNat)
  case atStart => exact ⟨0, Nat.zero_le _, rfl, HO, hbel⟩
  case round =>
    clear hbel HO
    obtain ⟨k, hk, rfl, HR, hbw⟩ := hrel
    by_cases hlt : k < n
    · obtain ⟨q0, q1, q2, q3⟩ := (HC.out.below hbw hbs).2 k hlt
      obtain ⟨xs, hown, hxs⟩ := HR.out
      have hsz : w.heap.size < wr.heap.size := (hown.lt _ rfl).2
      have f0 := hown.frozenAt (k * 2)
      have f1 := hown.frozenAt (k * 2 + 1)
      have hlen : xs.length = n * 2 := hown.1
      have r0 : ∃ v, wr.cell? ⟨w.heap.size, k * 2, none⟩ = some v := ⟨xs[k * 2]'(by omega), by rw [hown.cellAt _ (by omega)]; simp⟩
      have r1 : ∃ v, wr.cell? ⟨w.heap.size, k * 2 + 1, none⟩ = some v := ⟨xs[k * 2 + 1]'(by omega), by rw [hown.cellAt _ (by omega)]; simp⟩
      obtain ⟨v0, r0⟩ := r0
      obtain ⟨v1, r1⟩ := r1
      clear hown hxs hlen
      go_wp2
      exact ⟨⟨k + 1, by omega, by go_num, (HR.out.step hlt).alloc _, ((hbw.setCell (Nat.le_refl _) _).setCell (Nat.le_refl _) _).alloc (by simp; omega) _⟩, by simp [intOf]; omega⟩
    · obtain rfl : k = n := by omega
      go_wp2
      go_ret
      exact ⟨rfl, HR.out.cells, hbw⟩

theorem NamesAt.congr {w : World} {b n : Nat} {R R' : Nat → Com} (h : NamesAt w b n R') (he : ∀ j, j < n → (R' j).s = (R j).s ∧ (R' j).c = (R j).c) : NamesAt w b n R :=
  ⟨h.1, fun j hj => by rw [← (he j hj).1, ← (he j hj).2]; exact h.2 j hj⟩

set_option maxHeartbeats 400000 in
/-- ZZcommittedOf at one request or more -/
theorem named_some (b off n c : Nat) (R : Nat → Com) (h0 : 0 < n) (hm : n ≤ 1048577) (w : World) (hc : ReqsAt w b off n R) :
    Calls Try.prog 8 #[.slice (some ⟨b, off, none⟩) n c] w fun e w' => e = .returned (.slice (some ⟨w.heap.size, 0, none⟩) n n) ∧ NamesAt w' w.heap.size n R ∧ Below w.heap.size w w' := by
  obtain ⟨R', hc', he⟩ := hc
  have HC := hide hc'
  have HE := hide he
  clear hc' he
  go_enter Try.func8, Try.ntmps8
  go_wp2_with fail
  refine (named_core b off n c R' h0 hm _ HC.out).mono ?_
  rintro e w2 ⟨rfl, hn2, hb2⟩
  have HN := hide hn2
  clear hn2
  go_wp2
  go_ret
  exact ⟨rfl, HN.out.congr HE.out, hb2⟩

theorem ReqsAt.take {w : World} {b off n k : Nat} {R : Nat → Com} (h : ReqsAt w b off n R) (hk : k ≤ n) : ReqsAt w b off k R := by
  obtain ⟨R', ⟨h1, h2⟩, h3⟩ := h
  exact ⟨R', ⟨h1, fun j hj => h2 j (by omega)⟩, fun j hj => h3 j (by omega)⟩

theorem ReqsAt.drop {w : World} {b off n k : Nat} {R : Nat → Com} (h : ReqsAt w b off n R) (hk : k ≤ n) : ReqsAt w b (off + k * 4) (n - k) (fun j => R (k + j)) := by
  obtain ⟨R', ⟨h1, h2⟩, h3⟩ := h
  refine ⟨fun j => R' (k + j), ⟨h1, fun j hj => ?_⟩, fun j hj => h3 (k + j) (by omega)⟩
  have := h2 (k + j) (by omega)
  rwa [show off + (k + j) * 4 = off + k * 4 + j * 4 by omega] at this

set_option maxRecDepth 100000 in
/-- two names of the same stamps are equal -/
theorem neq31 (a b : Int) (w : World) : (binOp .neq 31 (.agg #[.int .u64 a, .int .u64 b]) (.agg #[.int .u64 a, .int .u64 b])).run Try.prog w = .ok (.bool false) w := by
  have h1 : Try.prog.underlying 31 = some (.struct (Try.prog.fieldsOf 31)) := by kernel_rfl
  have h2 : Try.prog.stoodInHeld 31 = false := by kernel_rfl
  rw [run_neq_struct, run_equalIn_agg w 9999 31 _ _ h1 h2]
  clear h1 h2
  go_simp

end Go.Proofs.Qxb6613118a
