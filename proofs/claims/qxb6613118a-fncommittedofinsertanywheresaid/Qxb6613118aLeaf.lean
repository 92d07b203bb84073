import Derived.Test.Qxb6613118aRows
import Derived.WalkKit
import Derived.WalkSpells
import Derived.WalkLawsBesides
namespace Go.Proofs.Qxb6613118a
open Go.RowKit

theorem hide {p : Prop} (h : p) : Hid p := h

/-- one commit as it lies in memory: its two stamps, its proof, the slice of its keys -/
structure Com where
  s : Int
  c : Int
  p : ByteArray
  a : Option Addr
  n : Nat
  m : Nat

/-- n commits, four cells each, from ⟨b, off⟩ on -/
def CellsAt (w : World) (b off n : Nat) (R : Nat → Com) : Prop :=
  b < w.heap.size ∧ ∀ j, j < n → w.cell? ⟨b, off + j * 4, none⟩ = some (.int .u64 (R j).s) ∧ w.cell? ⟨b, off + j * 4 + 1, none⟩ = some (.int .u64 (R j).c) ∧
    w.cell? ⟨b, off + j * 4 + 2, none⟩ = some (.string (R j).p) ∧ w.cell? ⟨b, off + j * 4 + 3, none⟩ = some (.slice (R j).a (R j).n (R j).m)

/-- the keys' own slices lie in memory; of an empty slice's address nothing is said -/
def KeysAt (w : World) (a : Option Addr) (n : Nat) : Prop :=
  n = 0 ∨ ∃ b off, a = some ⟨b, off, none⟩ ∧ b < w.heap.size ∧ ∀ j, j < n → ∃ a' n' m', w.cell? ⟨b, off + j, none⟩ = some (.slice a' n' m')

/-- every commit's keys can be read -/
def AllKeys (w : World) (n : Nat) (R : Nat → Com) : Prop := ∀ j, j < n → KeysAt w (R j).a (R j).n ∧ (R j).n ≤ maxLen

/-- the call returns one bool or the other -/
def AnyBool (e : Ending) : Prop := ∃ r : Bool, e = .returned (.bool r)
theorem anyBool (r : Bool) : AnyBool (.returned (.bool r)) := ⟨r, rfl⟩
/-- .. some int -/
def AnyInt (e : Ending) : Prop := ∃ r : Int, e = .returned (.int .i64 r)
theorem anyInt (r : Int) : AnyInt (.returned (.int .i64 r)) := ⟨r, rfl⟩

theorem CellsAt.below {w w' : World} {b off n B : Nat} {R : Nat → Com} (h : CellsAt w b off n R) (hb : Below B w w') (hB : b < B) : CellsAt w' b off n R := by
  obtain ⟨h2, h3⟩ := h
  refine ⟨Nat.lt_of_lt_of_le h2 hb.size, fun j hj => ?_⟩
  obtain ⟨g0, g1, g2, g3⟩ := h3 j hj
  exact ⟨by rw [hb.cell (by exact hB)]; exact g0, by rw [hb.cell (by exact hB)]; exact g1, by rw [hb.cell (by exact hB)]; exact g2, by rw [hb.cell (by exact hB)]; exact g3⟩

theorem KeysAt.below {w w' : World} {a : Option Addr} {n : Nat} (h : KeysAt w a n) (hb : Below w.heap.size w w') : KeysAt w' a n := by
  rcases h with h | ⟨b, off, h1, h2, h3⟩
  · exact .inl h
  · refine .inr ⟨b, off, h1, Nat.lt_of_lt_of_le h2 hb.size, fun j hj => ?_⟩
    obtain ⟨a', n', m', h4⟩ := h3 j hj
    exact ⟨a', n', m', by rw [hb.cell (by exact h2)]; exact h4⟩

theorem AllKeys.below {w w' : World} {n : Nat} {R : Nat → Com} (h : AllKeys w n R) (hb : Below w.heap.size w w') : AllKeys w' n R := fun j hj => ⟨(h j hj).1.below hb, (h j hj).2⟩

/-! ### commitsSize: some int comes back -/

set_option maxHeartbeats 1000000 in
theorem size_some (b off n c : Nat) (s : Int) (R : Nat → Com) (hm : n ≤ maxLen) (w : World) (hc : CellsAt w b off n R) (hk : AllKeys w n R) :
    Calls Try.prog 6 #[.slice (some ⟨b, off, none⟩) n c, .int .i64 s] w fun e w' => AnyInt e ∧ w' = w := by
  unfold maxLen at hm
  have HC := hide hc
  have HK := hide hk
  clear hc hk
  go_enter Try.func6, Try.ntmps6
  go_wp2
  go_loop [5, 6] (fun t i => ∃ (k : Nat) (x : Int), k ≤ n ∧ i = .int .i64 k ∧ t = .int .i64 x) (fun _ i => n - (intOf i).toNat)
  case atStart => exact ⟨0, s, Nat.zero_le _, rfl, rfl⟩
  case round =>
    obtain ⟨k, x, hkn, rfl, rfl⟩ := hrel
    by_cases hlt : k < n
    · obtain ⟨q0, q1, q2, q3⟩ := HC.out.2 k hlt
      obtain ⟨hkk, hkm⟩ := HK.out k hlt
      generalize R k = r at q0 q1 q2 q3 hkk hkm
      obtain ⟨rs, rc, rp, ra, rn, rm⟩ := r
      unfold maxLen at hkm
      simp only at q0 q1 q2 q3 hkk hkm
      rcases hkk with rfl | ⟨b', off', rfl, hb', hj⟩
      · go_wp2
        · go_ret
          exact ⟨anyInt _, rfl⟩
        · go_ret
          exact ⟨anyInt _, rfl⟩
        · refine wp_loop_rounds 1 ?_
          rw [rounds_succ]
          go_wp2
          go_round
          case rel => exact ⟨k + 1, _, by omega, by go_num, rfl⟩
          case measure => simp [intOf]; omega
      · have HJ := hide hj
        clear hj
        go_wp2
        · go_ret
          exact ⟨anyInt _, rfl⟩
        · go_ret
          exact ⟨anyInt _, rfl⟩
        · go_loop [5, 8] (fun t i => ∃ (q : Nat) (x : Int), q ≤ rn ∧ i = .int .i64 q ∧ t = .int .i64 x) (fun _ i => rn - (intOf i).toNat)
          case atStart => exact ⟨0, _, Nat.zero_le _, rfl, rfl⟩
          case round =>
            obtain ⟨q, y, hqn, rfl, rfl⟩ := hrel
            by_cases hqlt : q < rn
            · obtain ⟨a', n', m', hq⟩ := HJ.out q hqlt
              go_wp2
              · go_ret
                exact ⟨anyInt _, rfl⟩
              · go_ret
                exact ⟨anyInt _, rfl⟩
              · go_round
                case rel => exact ⟨q + 1, _, by omega, by go_num, rfl⟩
                case measure => simp [intOf]; omega
            · go_wp2
              go_round
              case rel => exact ⟨k + 1, _, by omega, by go_num, rfl⟩
              case measure => simp [intOf]; omega
    · go_wp2
      go_ret
      exact ⟨anyInt _, rfl⟩

set_option maxHeartbeats 400000 in
theorem size_none (ao : Option Addr) (c : Nat) (s : Int) (w : World) :
    Calls Try.prog 6 #[.slice ao 0 c, .int .i64 s] w fun e w' => AnyInt e ∧ w' = w := by
  go_enter Try.func6, Try.ntmps6
  go_wp2
  refine wp_loop_rounds 1 ?_
  rw [rounds_succ]
  go_wp2
  go_ret
  exact ⟨anyInt _, rfl⟩

/-! ### zzBytes: where it answers true the lengths are small -/

/-- a bool comes back; where it is true there are few commits, and each has few keys -/
def Small (e : Ending) (n : Nat) (R : Nat → Com) : Prop := ∃ r : Bool, e = .returned (.bool r) ∧ (r = true → n ≤ 1048576 ∧ ∀ j, j < n → (R j).n ≤ 1048576)
theorem small_false (n : Nat) (R : Nat → Com) : Small (.returned (.bool false)) n R := ⟨false, rfl, by simp⟩
theorem small_true {n : Nat} {R : Nat → Com} (h1 : n ≤ 1048576) (h2 : ∀ j, j < n → (R j).n ≤ 1048576) : Small (.returned (.bool true)) n R := ⟨true, rfl, fun _ => ⟨h1, h2⟩⟩

/-- of the first k commits each has few keys -/
def Few (k : Nat) (R : Nat → Com) : Prop := ∀ j, j < k → (R j).n ≤ 1048576
theorem few_zero (R : Nat → Com) : Few 0 R := fun _ h => absurd h (Nat.not_lt_zero _)
theorem Few.succ {k : Nat} {R : Nat → Com} (h : Few k R) (hk : (R k).n ≤ 1048576) : Few (k + 1) R := fun j hj => by
  rcases Nat.lt_succ_iff_lt_or_eq.1 hj with h1 | rfl
  · exact h j h1
  · exact hk

set_option maxRecDepth 100000 in
set_option maxHeartbeats 1000000 in
theorem bytes_some (b off n c : Nat) (s : Int) (R : Nat → Com) (w : World) (hc : CellsAt w b off n R) (hk : AllKeys w n R) :
    Calls Try.prog 5 #[.slice (some ⟨b, off, none⟩) n c, .int .i64 s] w fun e w' => Small e n R ∧ w' = w := by
  have HC := hide hc
  have HK := hide hk
  clear hc hk
  by_cases hbig : 1048576 < n
  · go_enter Try.func5, Try.ntmps5
    go_wp2
    go_ret
    exact ⟨small_false _ _, rfl⟩
  go_enter Try.func5, Try.ntmps5
  go_wp2
  go_loop [5, 6] (fun t i => ∃ (k : Nat) (x : Int), k ≤ n ∧ i = .int .i64 k ∧ t = .int .i64 x ∧ Hid (Few k R)) (fun _ i => n - (intOf i).toNat)
  case atStart => exact ⟨0, _, Nat.zero_le _, rfl, rfl, few_zero R⟩
  case round =>
    obtain ⟨k, x, hkn, rfl, rfl, HF⟩ := hrel
    by_cases hlt : k < n
    · obtain ⟨q0, q1, q2, q3⟩ := HC.out.2 k hlt
      obtain ⟨hkk, hkm⟩ := HK.out k hlt
      have HN : Hid ((R k).n ≤ 1048576 → Few (k + 1) R) := fun h => HF.out.succ h
      generalize R k = r at q0 q1 q2 q3 hkk hkm HN
      obtain ⟨rs, rc, rp, ra, rn, rm⟩ := r
      simp only at q0 q1 q2 q3 hkk hkm HN
      clear hkm
      by_cases hrn : 1048576 < rn
      · have hd : decide ((1048576 : Int) < (rn : Int)) = true := decide_eq_true (by omega)
        go_wp2
        all_goals
          go_ret
          exact ⟨small_false _ _, rfl⟩
      have hd : decide ((1048576 : Int) < (rn : Int)) = false := decide_eq_false (by omega)
      rcases hkk with rfl | ⟨b', off', rfl, hb', hj⟩
      · go_wp2
        · go_ret
          exact ⟨small_false _ _, rfl⟩
        · go_ret
          exact ⟨small_false _ _, rfl⟩
        · go_ret
          exact ⟨small_false _ _, rfl⟩
        · refine wp_loop_rounds 1 ?_
          rw [rounds_succ]
          go_wp2
          go_round
          case rel => exact ⟨k + 1, _, by omega, by go_num, rfl, HN.out (by omega)⟩
          case measure => simp [intOf]; omega
      · have HJ := hide hj
        clear hj
        go_wp2
        · go_ret
          exact ⟨small_false _ _, rfl⟩
        · go_ret
          exact ⟨small_false _ _, rfl⟩
        · go_ret
          exact ⟨small_false _ _, rfl⟩
        · go_loop [5, 7] (fun t i => ∃ (q : Nat) (x : Int), q ≤ rn ∧ i = .int .i64 q ∧ t = .int .i64 x) (fun _ i => rn - (intOf i).toNat)
          case atStart => exact ⟨0, _, Nat.zero_le _, rfl, rfl⟩
          case round =>
            obtain ⟨q, y, hqn, rfl, rfl⟩ := hrel
            by_cases hqlt : q < rn
            · obtain ⟨a', n', m', hq⟩ := HJ.out q hqlt
              go_wp2
              · go_ret
                exact ⟨small_false _ _, rfl⟩
              · go_ret
                exact ⟨small_false _ _, rfl⟩
              · go_round
                case rel => exact ⟨q + 1, _, by omega, by go_num, rfl⟩
                case measure => simp [intOf]; omega
            · go_wp2
              go_round
              case rel => exact ⟨k + 1, _, by omega, by go_num, rfl, HN.out (by omega)⟩
              case measure => simp [intOf]; omega
    · obtain rfl : k = n := by omega
      go_wp2
      go_ret
      exact ⟨small_true (by omega) HF.out, rfl⟩

set_option maxHeartbeats 400000 in
theorem bytes_none (ao : Option Addr) (c : Nat) (s : Int) (R : Nat → Com) (w : World) :
    Calls Try.prog 5 #[.slice ao 0 c, .int .i64 s] w fun e w' => Small e 0 R ∧ w' = w := by
  go_enter Try.func5, Try.ntmps5
  go_wp2
  refine wp_loop_rounds 1 ?_
  rw [rounds_succ]
  go_wp2
  go_ret
  exact ⟨small_true (by omega) (few_zero R), rfl⟩

end Go.Proofs.Qxb6613118a
