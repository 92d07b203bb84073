import Derived.Test.Qxb6612891aLeaf
namespace Go.Proofs.Qxb6612891a
open Go.RowKit

/-- the call returns one bool or the other -/
def AnyBool (e : Ending) : Prop := ∃ r : Bool, e = .returned (.bool r)
theorem anyBool (r : Bool) : AnyBool (.returned (.bool r)) := ⟨r, rfl⟩

set_option maxHeartbeats 1000000 in
theorem big_some (b off n c : Nat) (s : Int) (L : Nat → Line) (hm : n ≤ maxLen) (w : World) (hc : CellsAt w b off n L) :
    Calls Try.prog 6 #[.slice (some ⟨b, off, none⟩) n c, .int .i64 s] w fun e w' => AnyBool e ∧ w' = w := by
  unfold maxLen at hm
  have HC := hide hc
  clear hc
  go_enter Try.func6, Try.ntmps6
  go_wp2
  · go_ret
    exact ⟨anyBool _, rfl⟩
  go_loop [5, 6] (fun t i => ∃ (k : Nat) (x : Int), k ≤ n ∧ i = .int .i64 k ∧ t = .int .i64 x) (fun _ i => n - (intOf i).toNat)
  case atStart => exact ⟨0, s, Nat.zero_le _, rfl, rfl⟩
  case round =>
    obtain ⟨k, x, hk, rfl, rfl⟩ := hrel
    by_cases hlt : k < n
    · obtain ⟨q0, q1, q2⟩ := HC.out.2 k hlt
      go_wp2
      · go_ret
        exact ⟨anyBool _, rfl⟩
      · go_ret
        exact ⟨anyBool _, rfl⟩
      · go_ret
        exact ⟨anyBool _, rfl⟩
      · go_round
        case rel => exact ⟨k + 1, _, by omega, by go_num, rfl⟩
        case measure => simp [intOf]; omega
    · go_wp2
      go_ret
      exact ⟨anyBool _, rfl⟩

set_option maxHeartbeats 400000 in
theorem big_none (ao : Option Addr) (c : Nat) (s : Int) (w : World) :
    Calls Try.prog 6 #[.slice ao 0 c, .int .i64 s] w fun e w' => AnyBool e ∧ w' = w := by
  go_enter Try.func6, Try.ntmps6
  go_wp2
  · go_ret
    exact ⟨anyBool _, rfl⟩
  refine wp_loop_rounds 1 ?_
  rw [rounds_succ]
  go_wp2
  go_ret
  exact ⟨anyBool _, rfl⟩

theorem big_any (ao : Option Addr) (n c : Nat) (s : Int) (L : Nat → Line) (hm : n ≤ maxLen) (w : World) (hl : LinesAt w ao n L) :
    Calls Try.prog 6 #[.slice ao n c, .int .i64 s] w fun e w' => AnyBool e ∧ w' = w := by
  rcases hl with rfl | ⟨b, off, rfl, hc⟩
  · exact big_none ao c s w
  · exact big_some b off n c s L hm w hc

set_option maxHeartbeats 1000000 in
theorem bytes_some (b off n c : Nat) (s : Int) (L : Nat → Line) (w : World) (hc : CellsAt w b off n L) :
    Calls Try.prog 5 #[.slice (some ⟨b, off, none⟩) n c, .int .i64 s] w fun e w' => AnyBool e ∧ w' = w := by
  have HC := hide hc
  clear hc
  by_cases hbig : 1048576 < n
  · go_enter Try.func5, Try.ntmps5
    go_wp2
    go_ret
    exact ⟨anyBool _, rfl⟩
  go_enter Try.func5, Try.ntmps5
  go_wp2
  go_loop [5, 6] (fun t i => ∃ (k : Nat) (x : Int), k ≤ n ∧ i = .int .i64 k ∧ t = .int .i64 x) (fun _ i => n - (intOf i).toNat)
  case atStart => exact ⟨0, _, Nat.zero_le _, rfl, rfl⟩
  case round =>
    obtain ⟨k, x, hk, rfl, rfl⟩ := hrel
    by_cases hlt : k < n
    · obtain ⟨q0, q1, q2⟩ := HC.out.2 k hlt
      go_wp2
      · go_ret
        exact ⟨anyBool _, rfl⟩
      · go_ret
        exact ⟨anyBool _, rfl⟩
      · go_ret
        exact ⟨anyBool _, rfl⟩
      · go_ret
        exact ⟨anyBool _, rfl⟩
      · go_ret
        exact ⟨anyBool _, rfl⟩
      · go_ret
        exact ⟨anyBool _, rfl⟩
      · go_round
        case rel => exact ⟨k + 1, _, by omega, by go_num, rfl⟩
        case measure => simp [intOf]; omega
    · go_wp2
      go_ret
      exact ⟨anyBool _, rfl⟩

set_option maxHeartbeats 400000 in
theorem bytes_none (ao : Option Addr) (c : Nat) (s : Int) (w : World) :
    Calls Try.prog 5 #[.slice ao 0 c, .int .i64 s] w fun e w' => AnyBool e ∧ w' = w := by
  go_enter Try.func5, Try.ntmps5
  go_wp2
  refine wp_loop_rounds 1 ?_
  rw [rounds_succ]
  go_wp2
  go_ret
  exact ⟨anyBool _, rfl⟩

theorem bytes_any (ao : Option Addr) (n c : Nat) (s : Int) (L : Nat → Line) (w : World) (hl : LinesAt w ao n L) :
    Calls Try.prog 5 #[.slice ao n c, .int .i64 s] w fun e w' => AnyBool e ∧ w' = w := by
  rcases hl with rfl | ⟨b, off, rfl, hc⟩
  · exact bytes_none ao c s w
  · exact bytes_some b off n c s L w hc

set_option maxHeartbeats 1000000 in
theorem bytes2_some (b off n c : Nat) (s : Int) (x0 x1 x2 : ByteArray) (L : Nat → Line) (w : World) (hc : CellsAt w b off n L) :
    Calls Try.prog 9 #[.slice (some ⟨b, off, none⟩) n c, .int .i64 s, .agg #[.string x0, .string x1, .string x2]] w fun e w' => AnyBool e ∧ Below w.heap.size w w' := by
  have HC := hide (hc.below ((Below.refl _ _).alloc (Nat.le_refl _) (.cells #[.string x0, .string x1, .string x2] 30)) hc.1)
  clear hc
  by_cases hbig : 1048576 < n
  · go_enter Try.func9, Try.ntmps9
    go_wp2
    go_ret
    exact ⟨anyBool _, ((Below.refl _ _).alloc (Nat.le_refl _) _)⟩
  go_enter Try.func9, Try.ntmps9
  go_wp2
  go_loop [7, 8] (fun t i => ∃ (k : Nat) (x : Int), k ≤ n ∧ i = .int .i64 k ∧ t = .int .i64 x) (fun _ i => n - (intOf i).toNat)
  case atStart => exact ⟨0, _, Nat.zero_le _, rfl, rfl⟩
  case round =>
    obtain ⟨k, x, hk, rfl, rfl⟩ := hrel
    by_cases hlt : k < n
    · obtain ⟨q0, q1, q2⟩ := HC.out.2 k hlt
      go_wp2
      · go_ret
        exact ⟨anyBool _, ((Below.refl _ _).alloc (Nat.le_refl _) _)⟩
      · go_ret
        exact ⟨anyBool _, ((Below.refl _ _).alloc (Nat.le_refl _) _)⟩
      · go_ret
        exact ⟨anyBool _, ((Below.refl _ _).alloc (Nat.le_refl _) _)⟩
      · go_ret
        exact ⟨anyBool _, ((Below.refl _ _).alloc (Nat.le_refl _) _)⟩
      · go_ret
        exact ⟨anyBool _, ((Below.refl _ _).alloc (Nat.le_refl _) _)⟩
      · go_ret
        exact ⟨anyBool _, ((Below.refl _ _).alloc (Nat.le_refl _) _)⟩
      · go_round
        case rel => exact ⟨k + 1, _, by omega, by go_num, rfl⟩
        case measure => simp [intOf]; omega
    · go_wp2
      all_goals
        go_ret
        exact ⟨anyBool _, ((Below.refl _ _).alloc (Nat.le_refl _) _)⟩

set_option maxHeartbeats 400000 in
theorem bytes2_none (ao : Option Addr) (c : Nat) (s : Int) (x0 x1 x2 : ByteArray) (w : World) :
    Calls Try.prog 9 #[.slice ao 0 c, .int .i64 s, .agg #[.string x0, .string x1, .string x2]] w fun e w' => AnyBool e ∧ Below w.heap.size w w' := by
  go_enter Try.func9, Try.ntmps9
  go_wp2
  refine wp_loop_rounds 1 ?_
  rw [rounds_succ]
  go_wp2
  all_goals
    go_ret
    exact ⟨anyBool _, ((Below.refl _ _).alloc (Nat.le_refl _) _)⟩

theorem bytes2_any (ao : Option Addr) (n c : Nat) (s : Int) (x0 x1 x2 : ByteArray) (L : Nat → Line) (w : World) (hl : LinesAt w ao n L) :
    Calls Try.prog 9 #[.slice ao n c, .int .i64 s, .agg #[.string x0, .string x1, .string x2]] w fun e w' => AnyBool e ∧ Below w.heap.size w w' := by
  rcases hl with rfl | ⟨b, off, rfl, hc⟩
  · exact bytes2_none ao c s x0 x1 x2 w
  · exact bytes2_some b off n c s x0 x1 x2 L w hc

end Go.Proofs.Qxb6612891a
