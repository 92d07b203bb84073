import Derived.Test.Qxb6612908aFmtWk
import Derived.Test.Qxb6612908aFmtItoa
import Derived.Stop.Texts
import Derived.Stop.JoinedTold
namespace Go.Proofs.Qxb6612908aFmt
open Go.RowKit Go.Extern.Stop Go.Stop Go.Extern Go.Kit

/-- what an InputError with a line and a wrapped text says -/
def saysL (n : Int) (s : List UInt8) : List UInt8 := [108, 105, 110, 101, 32] ++ Lib.itoa n ++ [58, 32] ++ s
def says (n : Int) (s : ByteArray) : ByteArray := if n = 0 then s else ⟨(saysL n s.data.toList).toArray⟩

theorem told_says (F : Interp) (n : Int) (s : ByteArray) (hn : n ≠ 0) (hw : (Lit.int .i64 n).wf = true) (hs : s.size ≤ 1048576) :
    FmtStop.textOf (F.told "fmt.Sprintf" (reading n s.data.toList) 0) = says n s := by
  have hl := FmtText.itoa_length_le hw
  have hs' : s.data.toList.length ≤ 1048576 := by simpa using hs
  have ht := told_string F (text0 n s.data.toList hw) (by simp only [List.length_append, List.length_cons, List.length_nil]; omega)
  apply ByteArray.ext
  apply Array.toList_inj.1
  rw [textOf_list, ht, says, if_neg hn]
  rfl

set_option maxHeartbeats 400000 in
theorem text_zero (i t : Int) (s : ByteArray) (w : World) :
    Calls Tryf.prog 6 #[.int .i64 i, .int .i64 t, .int .i64 0, .string s] w fun e w' => e = .returned (.string s) ∧ Below w.heap.size w w' := by
  go_enter Tryf.func6, Tryf.ntmps6
  go_wp2_with fail
  refine (new_any _ _).mono ?_
  rintro e w2 ⟨rfl, rfl⟩
  go_wp2_with fail
  refine (error_zero _ ⟨w.heap.size, 0, none⟩ s _ (by go_simp) (by go_simp) (by go_simp)).mono ?_
  rintro e w3 ⟨rfl, rfl⟩
  go_wp2
  go_ret
  exact ⟨rfl, ((Below.refl _ w).alloc (Nat.le_refl _) _).alloc (by simp) _⟩

set_option maxHeartbeats 400000 in
theorem text_line (F : Interp) (i t n : Int) (s : ByteArray) (w : World) (hF : F.answers w.tape) (hn : (n == 0) = false) :
    Calls Tryf.prog 6 #[.int .i64 i, .int .i64 t, .int .i64 n, .string s] w fun e w' => e = .returned (.string (FmtStop.textOf (F "fmt.Sprintf" (reading n s.data.toList) 0))) ∧ Below w.heap.size w w' := by
  have HF := hide hF
  clear hF
  go_enter Tryf.func6, Tryf.ntmps6
  go_wp2_with fail
  refine (new_any _ _).mono ?_
  rintro e w2 ⟨rfl, rfl⟩
  go_wp2_with fail
  refine (error_line F _ n ⟨w.heap.size, 0, none⟩ s _ (by exact HF.out) hn (by go_simp) (by go_simp) (by go_simp)).mono ?_
  rintro e w3 ⟨rfl, hb3⟩
  have hb := ((((Below.refl _ w).alloc (Nat.le_refl _) (.cells #[.string s] 40)).alloc (by simp) (.cells #[.int .i64 i, .int .i64 t, .int .i64 n, .iface 38 (.pointer (some ⟨w.heap.size, 0, none⟩))] 32)).trans (hb3.mono (by simp; omega)))
  clear hb3
  go_wp2
  go_ret
  exact ⟨rfl, hb⟩

/-- ZZInputErrorText, fmt's text told -/
theorem text_any (F : Interp) (i t n : Int) (s : ByteArray) (w : World) (hF : F.told.answers w.tape) (hw : (Lit.int .i64 n).wf = true) (hs : s.size ≤ 1048576) :
    Calls Tryf.prog 6 #[.int .i64 i, .int .i64 t, .int .i64 n, .string s] w fun e w' => e = .returned (.string (says n s)) ∧ Below w.heap.size w w' := by
  by_cases hn : n = 0
  · subst hn
    rw [says, if_pos rfl]
    exact text_zero i t s w
  · refine (text_line F.told i t n s w hF (by simpa using hn)).mono ?_
    rintro e w' ⟨rfl, hb⟩
    exact ⟨by rw [told_says F n s hn hw hs], hb⟩

set_option maxHeartbeats 400000 in
theorem unwrap_no (i t n : Int) (s : ByteArray) (w : World) :
    Calls Tryf.prog 5 #[.int .i64 i, .int .i64 t, .int .i64 n, .string s, .bool false] w fun e w' => e = .returned (.tuple #[.bool true, .string ⟨#[]⟩]) ∧ Below w.heap.size w w' := by
  go_enter Tryf.func5, Tryf.ntmps5
  go_wp2
  go_ret2
  exact ⟨rfl, (Below.refl _ w).alloc (Nat.le_refl _) _⟩

set_option maxHeartbeats 400000 in
theorem unwrap_yes (i t n : Int) (s : ByteArray) (w : World) :
    Calls Tryf.prog 5 #[.int .i64 i, .int .i64 t, .int .i64 n, .string s, .bool true] w fun e w' => e = .returned (.tuple #[.bool false, .string s]) ∧ Below w.heap.size w w' := by
  have hme := method_error
  go_enter Tryf.func5, Tryf.ntmps5
  go_wp2
  go_ret2
  exact ⟨rfl, ((Below.refl _ w).alloc (Nat.le_refl _) _).alloc (by simp) _⟩

set_option maxHeartbeats 400000 in
theorem bytes_any (i t i2 t2 n : Int) (s : ByteArray) (b : Bool) (w : World) :
    Calls Tryf.prog 4 #[.int .i64 i, .int .i64 t, .int .i64 i2, .int .i64 t2, .int .i64 n, .string s, .bool b] w fun e w' => e = .returned (.bool (decide (s.size ≤ 1048576))) ∧ w' = w := by
  by_cases h : 1048576 < s.size
  · have HD : Hid (decide (s.size ≤ 1048576) = false) := decide_eq_false (by omega)
    go_enter Tryf.func4, Tryf.ntmps4
    go_wp2
    go_ret
    exact ⟨by rw [HD.out]; rfl, rfl⟩
  · have HD : Hid (decide (s.size ≤ 1048576) = true) := decide_eq_true (by omega)
    go_enter Tryf.func4, Tryf.ntmps4
    go_wp2
    go_ret
    exact ⟨by rw [HD.out]; rfl, rfl⟩

set_option maxHeartbeats 400000 in
theorem law_big (i t i2 t2 n : Int) (s : ByteArray) (b : Bool) (w : World) (h : 1048576 < s.size) :
    Calls Tryf.prog 3 #[.int .i64 i, .int .i64 t, .int .i64 i2, .int .i64 t2, .int .i64 n, .string s, .bool b] w fun e w' => e = .returned (.bool true) ∧ Below w.heap.size w w' := by
  have HD : Hid (decide (s.size ≤ 1048576) = false) := decide_eq_false (by omega)
  go_enter Tryf.func3, Tryf.ntmps3
  go_wp2_with fail
  refine (bytes_any _ _ _ _ _ _ _ _).mono ?_
  rintro e w1 ⟨rfl, rfl⟩
  rw [HD.out]
  go_wp2
  go_ret
  exact ⟨rfl, Below.refl _ _⟩

set_option maxHeartbeats 400000 in
theorem law_no (i t i2 t2 n : Int) (s : ByteArray) (w : World) (h : s.size ≤ 1048576) :
    Calls Tryf.prog 3 #[.int .i64 i, .int .i64 t, .int .i64 i2, .int .i64 t2, .int .i64 n, .string s, .bool false] w fun e w' => e = .returned (.bool true) ∧ Below w.heap.size w w' := by
  have HD : Hid (decide (s.size ≤ 1048576) = true) := decide_eq_true (by omega)
  go_enter Tryf.func3, Tryf.ntmps3
  go_wp2_with fail
  refine (bytes_any _ _ _ _ _ _ _ _).mono ?_
  rintro e w1 ⟨rfl, rfl⟩
  rw [HD.out]
  go_wp2_with fail
  refine (unwrap_no _ _ _ _ _).mono ?_
  rintro e w2 ⟨rfl, hb2⟩
  go_wp2
  go_ret
  exact ⟨rfl, hb2⟩

set_option maxHeartbeats 400000 in
theorem law_zero (F : Interp) (i t i2 t2 : Int) (s : ByteArray) (w : World) (hF : F.told.answers w.tape) (h : s.size ≤ 1048576) :
    Calls Tryf.prog 3 #[.int .i64 i, .int .i64 t, .int .i64 i2, .int .i64 t2, .int .i64 0, .string s, .bool true] w fun e w' => e = .returned (.bool true) ∧ Below w.heap.size w w' := by
  have HD : Hid (decide (s.size ≤ 1048576) = true) := decide_eq_true (by omega)
  have HF := hide hF
  clear hF
  have HS : Hid (says 0 s = s) := by rw [Hid, says, if_pos rfl]
  go_enter Tryf.func3, Tryf.ntmps3
  go_wp2_with fail
  refine (bytes_any _ _ _ _ _ _ _ _).mono ?_
  rintro e w1 ⟨rfl, rfl⟩
  rw [HD.out]
  go_wp2_with fail
  refine (unwrap_yes _ _ _ _ _).mono ?_
  rintro e w2 ⟨rfl, hb2⟩
  go_wp2_with fail
  refine (text_any F _ _ 0 s _ (by rw [hb2.tape]; exact HF.out) rfl h).mono ?_
  rintro e w3 ⟨rfl, hb3⟩
  have hb13 := hb2.trans (hb3.mono hb2.size)
  clear hb2 hb3
  go_wp2_with fail
  refine (text_any F _ _ 0 s _ (by rw [hb13.tape]; exact HF.out) rfl h).mono ?_
  rintro e w4 ⟨rfl, hb4⟩
  have hb14 := hb13.trans (hb4.mono hb13.size)
  clear hb13 hb4
  rw [HS.out]
  go_wp2
  go_ret
  refine ⟨?_, hb14⟩
  simp
  congr 1

set_option maxHeartbeats 400000 in
theorem law_line (F : Interp) (i t i2 t2 n : Int) (s : ByteArray) (w : World) (hF : F.told.answers w.tape) (hw : (Lit.int .i64 n).wf = true) (hn : n ≠ 0) (h : s.size ≤ 1048576) :
    Calls Tryf.prog 3 #[.int .i64 i, .int .i64 t, .int .i64 i2, .int .i64 t2, .int .i64 n, .string s, .bool true] w fun e w' => e = .returned (.bool true) ∧ Below w.heap.size w w' := by
  have HD : Hid (decide (s.size ≤ 1048576) = true) := decide_eq_true (by omega)
  have HF := hide hF
  clear hF
  have hnb : (n != 0) = true := by simpa using hn
  have HW := hide hw
  obtain ⟨hl, hh⟩ : -9223372036854775808 ≤ n ∧ n ≤ 9223372036854775807 := by
    have := FmtText.int_bounds hw
    simpa [IntKind.min, IntKind.max, IntKind.signed, IntKind.bits] using this
  clear hw
  go_enter Tryf.func3, Tryf.ntmps3
  go_wp2_with fail
  refine (bytes_any _ _ _ _ _ _ _ _).mono ?_
  rintro e w1 ⟨rfl, rfl⟩
  rw [HD.out]
  go_wp2_with fail
  refine (unwrap_yes _ _ _ _ _).mono ?_
  rintro e w2 ⟨rfl, hb2⟩
  go_wp2_with fail
  refine (text_any F _ _ n s _ (by rw [hb2.tape]; exact HF.out) HW.out h).mono ?_
  rintro e w3 ⟨rfl, hb3⟩
  have hb13 := hb2.trans (hb3.mono hb2.size)
  clear hb2 hb3
  go_wp2_with fail
  refine (text_any F _ _ n s _ (by rw [hb13.tape]; exact HF.out) HW.out h).mono ?_
  rintro e w4 ⟨rfl, hb4⟩
  have hb14 := hb13.trans (hb4.mono hb13.size)
  clear hb13 hb4
  go_wp2_with fail
  refine (itoaInt_any n hl hh _).mono ?_
  rintro e w5 ⟨rfl, hb5⟩
  have hb15 := hb14.trans (hb5.mono hb14.size)
  clear hb14 hb5
  have hsz : (⟨(Lib.itoa n).toArray⟩ : ByteArray).size ≤ 21 := by
    have h2 := Lib.itoa_length_le n hl hh
    simpa [ByteArray.size] using h2
  have HE : Hid (says n s = (⟨#[108, 105, 110, 101, 32]⟩ ++ ⟨(Lib.itoa n).toArray⟩) ++ ⟨#[58, 32]⟩ ++ s) := by
    rw [Hid, says, if_neg hn, saysL]
    apply ByteArray.ext
    simp
  generalize (⟨(Lib.itoa n).toArray⟩ : ByteArray) = d at *
  go_wp2
  go_ret
  refine ⟨?_, hb15⟩
  rw [HE.out]
  simp

/-- the law: whatever the input, it answers true, and nothing that was there has turned; fmt's text told -/
theorem law_any (F : Interp) (i t i2 t2 n : Int) (s : ByteArray) (b : Bool) (w : World) (hF : F.told.answers w.tape) (hw : (Lit.int .i64 n).wf = true) :
    Calls Tryf.prog 3 #[.int .i64 i, .int .i64 t, .int .i64 i2, .int .i64 t2, .int .i64 n, .string s, .bool b] w fun e w' => e = .returned (.bool true) ∧ Below w.heap.size w w' := by
  by_cases h : 1048576 < s.size
  · exact law_big i t i2 t2 n s b w h
  cases b with
  | false => exact law_no i t i2 t2 n s w (by omega)
  | true =>
    by_cases hn : n = 0
    · subst hn
      exact law_zero F i t i2 t2 s w hF (by omega)
    · exact law_line F i t i2 t2 n s w hF hw hn (by omega)

end Go.Proofs.Qxb6612908aFmt
