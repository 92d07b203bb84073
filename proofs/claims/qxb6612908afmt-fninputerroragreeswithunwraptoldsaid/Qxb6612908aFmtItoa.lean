import Derived.Test.Qxb6612908aFmtRows
import Derived.WalkKit
import Derived.WalkSpells
import Derived.WalkLawsBesides
import Derived.Lib.ItoaLen
import Derived.Laws.BytesArg
import Derived.Laws.IdiomStrings
namespace Go.Proofs.Qxb6612908aFmt
open Go.RowKit

theorem hideI {p : Prop} (h : p) : Hid p := h

/-- behind some rounds: v is what is left of u, ds the digits laid so far -/
def Dec (u v : Nat) (ds : List UInt8) : Prop := v * 10 ^ ds.length ≤ u ∧ ((v = 0 ∧ Lib.decDigits u = ds) ∨ (0 < v ∧ Lib.decDigits u = Lib.decDigits v ++ ds))

theorem Dec.start (u : Nat) (h : 0 < u) : Dec u u [] := ⟨by simp, .inr ⟨h, by simp⟩⟩

theorem Dec.step {u v : Nat} {ds : List UInt8} (h : Dec u v ds) (hv : 0 < v) : Dec u (v / 10) (UInt8.ofNat (48 + v % 10) :: ds) := by
  obtain ⟨h1, h2⟩ := h
  refine ⟨?_, ?_⟩
  · rw [List.length_cons, Nat.pow_succ, Nat.mul_comm (10 ^ ds.length) 10, ← Nat.mul_assoc]
    exact Nat.le_trans (Nat.mul_le_mul_right _ (Nat.div_mul_le_self v 10)) h1
  · rcases h2 with ⟨h0, _⟩ | ⟨_, h2⟩
    · omega
    · by_cases h10 : v < 10
      · refine .inl ⟨by omega, ?_⟩
        rw [h2, Lib.decDigits_one h10, show v % 10 = v by omega]
        rfl
      · refine .inr ⟨by omega, ?_⟩
        rw [h2, Lib.decDigits, dif_neg h10]
        simp

theorem Dec.short {u v : Nat} {ds : List UInt8} (h : Dec u v ds) (hu : u < 18446744073709551616) (hv : 0 < v) : ds.length < 20 := by
  rcases Nat.lt_or_ge ds.length 20 with h1 | h1
  · exact h1
  · have h2 : 10 ^ 20 ≤ 10 ^ ds.length := Nat.pow_le_pow_right (by decide) h1
    have h3 : 10 ^ ds.length ≤ v * 10 ^ ds.length := Nat.le_mul_of_pos_left _ hv
    have h4 := h.1
    have h5 : (10 : Nat) ^ 20 = 100000000000000000000 := by decide
    omega

/-- the digits lie at the end of the buffer's block B -/
def Buf (w : World) (B : Nat) (ds : List UInt8) : Prop :=
  ∃ cur : Array Value, w.heap[B]? = some (.cells cur 42 (0, 0)) ∧ cur.size = 20 ∧ ds.length ≤ 20 ∧ ∀ j, (h : j < ds.length) → cur[20 - ds.length + j]? = some (.int .u8 (ds[j].toNat : Int))

theorem Buf.step {w : World} {B : Nat} {ds : List UInt8} (h : Buf w B ds) (hl : ds.length < 20) (n : Nat) (hn : n < 256) :
    Buf (w.setCell ⟨B, 20 - ds.length - 1, none⟩ (.int .u8 n)) B (UInt8.ofNat n :: ds) := by
  obtain ⟨cur, hh, hsz, h20, hc⟩ := h
  refine ⟨cur.setIfInBounds (20 - ds.length - 1) (.int .u8 n), heap_setCell_same w B _ cur 42 _ hh, by simpa using hsz, by simp; omega, fun j hj => ?_⟩
  rw [List.length_cons] at hj ⊢
  cases j with
  | zero =>
    have e : (UInt8.ofNat n).toNat = n := by simp; omega
    simp only [List.getElem_cons_zero, e, Nat.add_zero]
    rw [show 20 - (ds.length + 1) = 20 - ds.length - 1 by omega, Array.getElem?_setIfInBounds_self]
    rw [if_pos (by omega)]
  | succ j =>
    simp only [List.getElem_cons_succ]
    rw [Array.getElem?_setIfInBounds_ne (by omega), show 20 - (ds.length + 1) + (j + 1) = 20 - ds.length + j by omega]
    exact hc j (by omega)

theorem Buf.cell {w : World} {B : Nat} {ds : List UInt8} (h : Buf w B ds) (j : Nat) (hj : j < ds.length) : w.cell? ⟨B, 20 - ds.length + j, none⟩ = some (.int .u8 (ds[j].toNat : Int)) := by
  obtain ⟨cur, hh, hsz, h20, hc⟩ := h
  rw [cell_of_row w B _ cur 42 (0, 0) hh]
  exact hc j hj

theorem array42 : Tryf.prog.underlying 42 = some (.array (Tryf.prog.arrayLen 42) (Tryf.prog.elem 42)) := by kernel_rfl
theorem len42 : Tryf.prog.arrayLen 42 = 20 := by kernel_rfl
theorem size5 (w : World) : (sizeOf (Tryf.prog.elem 42)).run Tryf.prog w = .ok 1 w := by kernel_rfl

/-- 'buf[i:]' -/
theorem tail_run (B n : Nat) (h0 : 0 < n) (h20 : n ≤ 20) (w : World) :
    (Instr.sliceAt 42 (.pointer (some ⟨B, 0, none⟩)) (some (.int .i64 ((20 : Int) - n))) none none).run Tryf.prog w = .ok (.slice (some ⟨B, 20 - n, none⟩) n n) w := by
  rw [run_sliceAt_array_l w 42 ⟨B, 0, none⟩ array42 .i64 ((20 : Int) - n) (by omega) (by rw [len42]; omega), size5]
  simp only [Result.andThen, slicedAt, len42]
  rw [if_neg (by omega), show ((20 : Int) - n).toNat = 20 - n by omega]
  simp [Addr.add]
  omega

set_option maxHeartbeats 400000 in
theorem itoaU_pos (u : Nat) (hu0 : 0 < u) (hu : u < 18446744073709551616) (w : World) :
    Calls Tryf.prog 11 #[.int .u64 u] w fun e w' => e = .returned (.string ⟨(Lib.decDigits u).toArray⟩) ∧ Below w.heap.size w w' := by
  have hne : ((u : Int) == 0) = false := by simp; omega
  go_enter Tryf.func11, Tryf.ntmps11
  go_wp2
  go_loopw [0, 4] (fun t i wr => ∃ (v : Nat) (ds : List UInt8), v ≤ u ∧ ds.length ≤ 20 ∧ t = .int .u64 v ∧ i = .int .i64 ((20 : Int) - ds.length) ∧ Hid (Dec u v ds) ∧ Hid (Buf wr w.heap.size ds) ∧ Below w.heap.size w wr) (fun t _ _ => (intOf t).toNat)
  case atStart =>
    refine ⟨u, [], Nat.le_refl _, by simp, rfl, rfl, Dec.start u hu0, ⟨_, heap_alloc_new w _, rfl, by simp, fun j h => absurd h (by simp)⟩, (Below.refl _ _).alloc (Nat.le_refl _) _⟩
  case round =>
    obtain ⟨v, ds, hv, hl, rfl, rfl, HD, HF, hbw⟩ := hrel
    by_cases hv0 : 0 < v
    · have hsh := HD.out.short hu hv0
      obtain ⟨cur, hh, hsz, _, _⟩ := HF.out
      have c0 : ∃ x, wr.cell? ⟨w.heap.size, 20 - ds.length - 1, none⟩ = some x := ⟨cur[20 - ds.length - 1]'(by omega), by rw [cell_of_row wr _ _ cur 42 (0, 0) hh]; simp⟩
      have f0 : wr.frozen? ⟨w.heap.size, 20 - ds.length - 1, none⟩ = false := frozen_of_row wr _ _ cur 42 hh
      obtain ⟨x0, c0⟩ := c0
      clear hh hsz
      go_wp2
      refine ⟨⟨v / 10, UInt8.ofNat (48 + v % 10) :: ds, by omega, by simp; omega, by simp, by simp; omega, HD.out.step hv0, ?_, hbw.setCell (Nat.le_refl _) _⟩, by simp [intOf]; omega⟩
      have := HF.out.step hsh (48 + v % 10) (by omega)
      unfold Hid
      simpa using this
    · obtain rfl : v = 0 := by omega
      have hds : Lib.decDigits u = ds := by
        rcases HD.out.2 with ⟨_, h⟩ | ⟨h, _⟩
        · exact h
        · omega
      have hpos : 0 < ds.length := by rw [← hds, Lib.decDigits_length]; exact Lib.nDigits_pos u
      have hts := tail_run w.heap.size ds.length hpos hl
      have hcv := run_convert_bytes_back (P := Tryf.prog) wr 43 9 5 ⟨w.heap.size, 20 - ds.length, none⟩ ds.length ds Tryf.underlying43 Tryf.underlying5 Tryf.underlying9 (fun j hj => by
        rw [WideShapes.add_plain]
        exact HF.out.cell j hj)
      have HDS := hideI hds
      clear hds
      go_wp2
      go_ret
      exact ⟨by rw [HDS.out]; rfl, hbw⟩

set_option maxHeartbeats 400000 in
theorem itoaU_zero (w : World) :
    Calls Tryf.prog 11 #[.int .u64 0] w fun e w' => e = .returned (.string ⟨(Lib.decDigits 0).toArray⟩) ∧ Below w.heap.size w w' := by
  have h0 : Hid (Lib.decDigits 0 = [48]) := by rw [Hid, Lib.decDigits_one (by decide)]; rfl
  go_enter Tryf.func11, Tryf.ntmps11
  go_wp2
  go_ret
  exact ⟨by rw [h0.out]; rfl, Below.refl _ _⟩

theorem itoaU_any (n : Int) (u : Nat) (hn : n = u) (hu : u < 18446744073709551616) (w : World) :
    Calls Tryf.prog 11 #[.int .u64 n] w fun e w' => e = .returned (.string ⟨(Lib.decDigits u).toArray⟩) ∧ Below w.heap.size w w' := by
  subst hn
  by_cases h : 0 < u
  · exact itoaU_pos u h hu w
  · obtain rfl : u = 0 := by omega
    exact itoaU_zero w

set_option maxHeartbeats 400000 in
theorem itoaInt_pos (n : Int) (h0 : 0 ≤ n) (h1 : n ≤ 9223372036854775807) (w : World) :
    Calls Tryf.prog 7 #[.int .i64 n] w fun e w' => e = .returned (.string ⟨(Lib.itoa n).toArray⟩) ∧ Below w.heap.size w w' := by
  have HI : Hid (Lib.itoa n = Lib.decDigits n.toNat) := by rw [Hid, Lib.itoa, if_neg (by omega)]
  go_enter Tryf.func7, Tryf.ntmps7
  go_wp2_with fail
  refine (itoaU_any _ n.toNat (by omega) (by omega) _).mono ?_
  rintro e w2 ⟨rfl, hb2⟩
  go_wp2
  go_ret
  exact ⟨by rw [HI.out]; rfl, hb2⟩

set_option maxHeartbeats 400000 in
theorem itoaInt_neg (n : Int) (h0 : n < 0) (h1 : -9223372036854775808 ≤ n) (w : World) :
    Calls Tryf.prog 7 #[.int .i64 n] w fun e w' => e = .returned (.string ⟨(Lib.itoa n).toArray⟩) ∧ Below w.heap.size w w' := by
  have HI : Hid (Lib.itoa n = 45 :: Lib.decDigits n.natAbs) := by rw [Hid, Lib.itoa, if_pos (by omega)]
  go_enter Tryf.func7, Tryf.ntmps7
  go_wp2_with fail
  refine (itoaU_any _ n.natAbs (by omega) (by omega) _).mono ?_
  rintro e w2 ⟨rfl, hb2⟩
  generalize hs : (⟨(Lib.decDigits n.natAbs).toArray⟩ : ByteArray) = s at *
  have hsz : s.size ≤ 21 := by
    have h2 := Lib.itoa_length_le n (by omega) (by omega)
    rw [HI.out, List.length_cons] at h2
    rw [← hs]
    simp [ByteArray.size]
    omega
  have HS := hideI hs
  clear hs
  go_wp2
  go_ret
  refine ⟨?_, hb2⟩
  show Ending.returned (.string (⟨#[45]⟩ ++ s)) = _
  rw [HI.out, ← HS.out]
  congr 2

/-- itoaInt writes n in decimal -/
theorem itoaInt_any (n : Int) (h1 : -9223372036854775808 ≤ n) (h2 : n ≤ 9223372036854775807) (w : World) :
    Calls Tryf.prog 7 #[.int .i64 n] w fun e w' => e = .returned (.string ⟨(Lib.itoa n).toArray⟩) ∧ Below w.heap.size w w' := by
  by_cases h0 : n < 0
  · exact itoaInt_neg n h0 h1 w
  · exact itoaInt_pos n (by omega) h2 w

end Go.Proofs.Qxb6612908aFmt
