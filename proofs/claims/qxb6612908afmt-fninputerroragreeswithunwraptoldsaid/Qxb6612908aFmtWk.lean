import Derived.Test.Qxb6612908aFmtFacts
import Derived.WalkKit
import Derived.WalkSpells
import Derived.WalkLawsBesides
import Derived.Deep.RegionWith
import Derived.Deep.QuietTactic
import Derived.BigQuiet
namespace Go.Proofs.Qxb6612908aFmt
open Go.RowKit Go.Extern.Stop Go.Stop Go.Extern

theorem hide {p : Prop} (h : p) : Hid p := h

attribute [local go_sem] Tryf.call12 Tryf.guard Tryf.fmt0 Tryf.fmt0r Tryf.act3_100 Tryf.op3_100 Tryf.actPlain38_118

set_option maxHeartbeats 400000 in
theorem new_any (s : ByteArray) (w : World) :
    Calls Tryf.prog 8 #[.string s] w fun e w' => e = .returned (.iface 38 (.pointer (some ⟨w.heap.size, 0, none⟩))) ∧ w' = w.alloc (.cells #[.string s] 40) := by
  go_enter Tryf.func8, Tryf.ntmps8
  go_wp2
  go_ret
  exact ⟨rfl, rfl⟩

set_option maxHeartbeats 400000 in
theorem errText_any (a : Addr) (t : ByteArray) (w : World) (h : w.cell? a = some (.string t)) :
    Calls Tryf.prog 28 #[.pointer (some a)] w fun e w' => e = .returned (.string t) ∧ w' = w := by
  go_enter Tryf.func28, Tryf.ntmps28
  go_wp2
  go_ret
  exact ⟨rfl, rfl⟩

theorem method_error (a : Addr) (w : World) : (method 161 38 (.pointer (some a)) "Error").run Tryf.prog w = .ok (28, .pointer (some a)) w := by kernel_rfl

set_option maxHeartbeats 400000 in
theorem error_zero (b : Nat) (a : Addr) (s : ByteArray) (w : World) (c2 : w.cell? ⟨b, 2, none⟩ = some (.int .i64 0)) (c3 : w.cell? ⟨b, 3, none⟩ = some (.iface 38 (.pointer (some a)))) (hs : w.cell? a = some (.string s)) :
    Calls Tryf.prog 10 #[.pointer (some ⟨b, 0, none⟩)] w fun e w' => e = .returned (.string s) ∧ w' = w := by
  have hme := method_error a
  go_enter Tryf.func10, Tryf.ntmps10
  go_wp2_with fail
  refine (errText_any _ _ _ hs).mono ?_
  rintro e w' ⟨rfl, rfl⟩
  go_wp2
  go_ret
  exact ⟨rfl, rfl⟩

set_option maxHeartbeats 400000 in
theorem error_line (F : Interp) (b : Nat) (n : Int) (a : Addr) (s : ByteArray) (w : World) (hF : F.answers w.tape) (hn : (n == 0) = false) (c2 : w.cell? ⟨b, 2, none⟩ = some (.int .i64 n)) (c3 : w.cell? ⟨b, 3, none⟩ = some (.iface 38 (.pointer (some a)))) (hs : w.cell? a = some (.string s)) :
    Calls Tryf.prog 10 #[.pointer (some ⟨b, 0, none⟩)] w fun e w' => e = .returned (.string (FmtStop.textOf (F "fmt.Sprintf" (reading n s.data.toList) 0))) ∧ Below w.heap.size w w' := by
  have hF' := answers_open hF
  have hop := fun (o : Obj) => Tryf.opPlain38_118 "fmt.Sprintf" a s ((w.alloc o).drew) (cell_later (((Below.refl _ w).alloc (Nat.le_refl _) o).drew) hs)
  go_enter Tryf.func10, Tryf.ntmps10
  go_wp2_with fail
  go_region_with (with_reducible apply rows_value Tryf.nextTurns; (case hr => go_simp; exact ⟨rfl, rfl⟩))
  all_goals
    go_wp2
    go_ret
    exact ⟨rfl, (((Below.refl _ w).alloc (Nat.le_refl _) _).drew).drew⟩

end Go.Proofs.Qxb6612908aFmt
