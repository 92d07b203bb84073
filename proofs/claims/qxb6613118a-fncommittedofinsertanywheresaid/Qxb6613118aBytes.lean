import Derived.Test.Qxb6613118aLeaf
namespace Go.Proofs.Qxb6613118a
open Go.RowKit

/-- a bool comes back; where it is true there are few commits, each has few keys, and so has the one more -/
def Small2 (e : Ending) (n : Nat) (R : Nat → Com) (xn : Nat) : Prop := ∃ r : Bool, e = .returned (.bool r) ∧ (r = true → n ≤ 1048576 ∧ Few n R ∧ xn ≤ 1048576)
theorem small2_false (n : Nat) (R : Nat → Com) (xn : Nat) : Small2 (.returned (.bool false)) n R xn := ⟨false, rfl, by simp⟩
theorem small2_true {n : Nat} {R : Nat → Com} {xn : Nat} (h1 : n ≤ 1048576) (h2 : Few n R) (h3 : xn ≤ 1048576) : Small2 (.returned (.bool true)) n R xn := ⟨true, rfl, fun _ => ⟨h1, h2, h3⟩⟩

set_option maxRecDepth 100000 in
set_option maxHeartbeats 2000000 in
theorem bytes2_some (b off n c : Nat) (s : Int) (xs xc : Int) (xp : ByteArray) (xa : Option Addr) (xn xm : Nat) (R : Nat → Com) (w : World) (hc : CellsAt w b off n R) (hk : AllKeys w n R) (hx : KeysAt w xa xn) (hxm : xn ≤ maxLen) :
    Calls Try.prog 9 #[.slice (some ⟨b, off, none⟩) n c, .int .i64 s, .agg #[.int .u64 xs, .int .u64 xc, .string xp, .slice xa xn xm]] w fun e w' => Small2 e n R xn ∧ Below w.heap.size w w' := by
  unfold maxLen at hxm
  have hB1 : Below w.heap.size w (w.alloc (.cells #[.int .u64 xs, .int .u64 xc, .string xp, .slice xa xn xm] 34)) := (Below.refl _ _).alloc (Nat.le_refl _) _
  have HC := hide (hc.below hB1 hc.1)
  have HK := hide (hk.below hB1)
  have HX := hide (hx.below hB1)
  clear hc hk hx hB1
  by_cases hbig : 1048576 < n
  · go_enter Try.func9, Try.ntmps9
    go_wp2
    go_ret
    exact ⟨small2_false _ _ _, (Below.refl _ _).alloc (Nat.le_refl _) _⟩
  go_enter Try.func9, Try.ntmps9
  go_wp2
  go_loop [7, 8] (fun t i => ∃ (k : Nat) (x : Int), k ≤ n ∧ i = .int .i64 k ∧ t = .int .i64 x ∧ Hid (Few k R)) (fun _ i => n - (intOf i).toNat)
  case atStart => exact ⟨0, _, Nat.zero_le _, rfl, rfl, few_zero R⟩
  case round =>
    obtain ⟨k, x, hkn, rfl, rfl, HF⟩ := hrel
    by_cases hlt : k < n
    · clear HX
      obtain ⟨q0, q1, q2, q3⟩ := HC.out.2 k hlt
      obtain ⟨hkk, hkm⟩ := HK.out k hlt
      have HN : Hid ((R k).n ≤ 1048576 → Few (k + 1) R) := fun h => HF.out.succ h
      generalize R k = r at q0 q1 q2 q3 hkk hkm HN
      obtain ⟨rs, rc, rp, ra, rn, rm⟩ := r
      simp only at q0 q1 q2 q3 hkk hkm HN
      clear hkm
      by_cases hrn : 1048576 < rn
      · have hd : decide ((1048576 : Int) < (rn : Int)) = true := decide_eq_true (by omega)
        go_wp2
        all_goals
          go_ret
          exact ⟨small2_false _ _ _, (Below.refl _ _).alloc (Nat.le_refl _) _⟩
      have hd : decide ((1048576 : Int) < (rn : Int)) = false := decide_eq_false (by omega)
      rcases hkk with rfl | ⟨b', off', rfl, hb', hj⟩
      · go_wp2
        · go_ret
          exact ⟨small2_false _ _ _, (Below.refl _ _).alloc (Nat.le_refl _) _⟩
        · go_ret
          exact ⟨small2_false _ _ _, (Below.refl _ _).alloc (Nat.le_refl _) _⟩
        · go_ret
          exact ⟨small2_false _ _ _, (Below.refl _ _).alloc (Nat.le_refl _) _⟩
        · refine wp_loop_rounds 1 ?_
          rw [rounds_succ]
          go_wp2
          go_round
          case rel => exact ⟨k + 1, _, by omega, by go_num, rfl, HN.out (by omega)⟩
          case measure => simp [intOf]; omega
      · have HJ := hide hj
        clear hj
        go_wp2
        · go_ret
          exact ⟨small2_false _ _ _, (Below.refl _ _).alloc (Nat.le_refl _) _⟩
        · go_ret
          exact ⟨small2_false _ _ _, (Below.refl _ _).alloc (Nat.le_refl _) _⟩
        · go_ret
          exact ⟨small2_false _ _ _, (Below.refl _ _).alloc (Nat.le_refl _) _⟩
        · go_loop [7, 9] (fun t i => ∃ (q : Nat) (x : Int), q ≤ rn ∧ i = .int .i64 q ∧ t = .int .i64 x) (fun _ i => rn - (intOf i).toNat)
          case atStart => exact ⟨0, _, Nat.zero_le _, rfl, rfl⟩
          case round =>
            obtain ⟨q, y, hqn, rfl, rfl⟩ := hrel
            by_cases hqlt : q < rn
            · obtain ⟨a', n', m', hq⟩ := HJ.out q hqlt
              go_wp2
              · go_ret
                exact ⟨small2_false _ _ _, (Below.refl _ _).alloc (Nat.le_refl _) _⟩
              · go_ret
                exact ⟨small2_false _ _ _, (Below.refl _ _).alloc (Nat.le_refl _) _⟩
              · go_round
                case rel => exact ⟨q + 1, _, by omega, by go_num, rfl⟩
                case measure => simp [intOf]; omega
            · go_wp2
              go_round
              case rel => exact ⟨k + 1, _, by omega, by go_num, rfl, HN.out (by omega)⟩
              case measure => simp [intOf]; omega
    obtain rfl : k = n := by omega
    by_cases hxn : 1048576 < xn
    · have hd9 : decide ((1048576 : Int) < (xn : Int)) = true := decide_eq_true (by omega)
      go_wp2
      all_goals
        go_ret
        exact ⟨small2_false _ _ _, (Below.refl _ _).alloc (Nat.le_refl _) _⟩
    have hd9 : decide ((1048576 : Int) < (xn : Int)) = false := decide_eq_false (by omega)
    rcases HX.out with hx0 | ⟨b', off', hxa, hb', hj⟩
    · have ex : xn = 0 := hx0
      clear hx0 HX
      subst ex
      go_wp2
      · go_ret
        exact ⟨small2_false _ _ _, (Below.refl _ _).alloc (Nat.le_refl _) _⟩
      · go_ret
        exact ⟨small2_false _ _ _, (Below.refl _ _).alloc (Nat.le_refl _) _⟩
      · go_ret
        exact ⟨small2_false _ _ _, (Below.refl _ _).alloc (Nat.le_refl _) _⟩
      · refine wp_loop_rounds 1 ?_
        rw [rounds_succ]
        go_wp2
        go_ret
        exact ⟨small2_true (by omega) HF.out (by omega), (Below.refl _ _).alloc (Nat.le_refl _) _⟩
    · have ex : xa = some ⟨b', off', none⟩ := hxa
      clear hxa HX
      subst ex
      have HJ := hide hj
      clear hj
      go_wp2
      · go_ret
        exact ⟨small2_false _ _ _, (Below.refl _ _).alloc (Nat.le_refl _) _⟩
      · go_ret
        exact ⟨small2_false _ _ _, (Below.refl _ _).alloc (Nat.le_refl _) _⟩
      · go_ret
        exact ⟨small2_false _ _ _, (Below.refl _ _).alloc (Nat.le_refl _) _⟩
      · go_loop [7, 10] (fun t i => ∃ (q : Nat) (x : Int), q ≤ xn ∧ i = .int .i64 q ∧ t = .int .i64 x) (fun _ i => xn - (intOf i).toNat)
        case atStart => exact ⟨0, _, Nat.zero_le _, rfl, rfl⟩
        case round =>
          obtain ⟨q, y, hqn, rfl, rfl⟩ := hrel
          by_cases hqlt : q < xn
          · obtain ⟨a', n', m', hq⟩ := HJ.out q hqlt
            go_wp2
            · go_ret
              exact ⟨small2_false _ _ _, (Below.refl _ _).alloc (Nat.le_refl _) _⟩
            · go_ret
              exact ⟨small2_false _ _ _, (Below.refl _ _).alloc (Nat.le_refl _) _⟩
            · go_round
              case rel => exact ⟨q + 1, _, by omega, by go_num, rfl⟩
              case measure => simp [intOf]; omega
          · go_wp2
            go_ret
            exact ⟨small2_true (by omega) HF.out (by omega), (Below.refl _ _).alloc (Nat.le_refl _) _⟩

set_option maxRecDepth 100000 in
set_option maxHeartbeats 2000000 in
theorem bytes2_none (ao : Option Addr) (c : Nat) (s : Int) (xs xc : Int) (xp : ByteArray) (xa : Option Addr) (xn xm : Nat) (R : Nat → Com) (w : World) (hx : KeysAt w xa xn) (hxm : xn ≤ maxLen) :
    Calls Try.prog 9 #[.slice ao 0 c, .int .i64 s, .agg #[.int .u64 xs, .int .u64 xc, .string xp, .slice xa xn xm]] w fun e w' => Small2 e 0 R xn ∧ Below w.heap.size w w' := by
  unfold maxLen at hxm
  have hB1 : Below w.heap.size w (w.alloc (.cells #[.int .u64 xs, .int .u64 xc, .string xp, .slice xa xn xm] 34)) := (Below.refl _ _).alloc (Nat.le_refl _) _
  have HX := hide (hx.below hB1)
  clear hx hB1
  go_enter Try.func9, Try.ntmps9
  go_wp2
  refine wp_loop_rounds 1 ?_
  rw [rounds_succ]
  by_cases hxn : 1048576 < xn
  · have hd9 : decide ((1048576 : Int) < (xn : Int)) = true := decide_eq_true (by omega)
    go_wp2
    all_goals
      go_ret
      exact ⟨small2_false _ _ _, (Below.refl _ _).alloc (Nat.le_refl _) _⟩
  have hd9 : decide ((1048576 : Int) < (xn : Int)) = false := decide_eq_false (by omega)
  rcases HX.out with hx0 | ⟨b', off', hxa, hb', hj⟩
  · have ex : xn = 0 := hx0
    clear hx0 HX
    subst ex
    go_wp2
    · go_ret
      exact ⟨small2_false _ _ _, (Below.refl _ _).alloc (Nat.le_refl _) _⟩
    · refine wp_loop_rounds 1 ?_
      rw [rounds_succ]
      go_wp2
      go_ret
      exact ⟨small2_true (by omega) (few_zero R) (by omega), (Below.refl _ _).alloc (Nat.le_refl _) _⟩
  · have ex : xa = some ⟨b', off', none⟩ := hxa
    clear hxa HX
    subst ex
    have HJ := hide hj
    clear hj
    go_wp2
    · go_ret
      exact ⟨small2_false _ _ _, (Below.refl _ _).alloc (Nat.le_refl _) _⟩
    · go_ret
      exact ⟨small2_false _ _ _, (Below.refl _ _).alloc (Nat.le_refl _) _⟩
    · go_loop [7, 10] (fun t i => ∃ (q : Nat) (x : Int), q ≤ xn ∧ i = .int .i64 q ∧ t = .int .i64 x) (fun _ i => xn - (intOf i).toNat)
      case atStart => exact ⟨0, _, Nat.zero_le _, rfl, rfl⟩
      case round =>
        obtain ⟨q, y, hqn, rfl, rfl⟩ := hrel
        by_cases hqlt : q < xn
        · obtain ⟨a', n', m', hq⟩ := HJ.out q hqlt
          go_wp2
          · go_ret
            exact ⟨small2_false _ _ _, (Below.refl _ _).alloc (Nat.le_refl _) _⟩
          · go_ret
            exact ⟨small2_false _ _ _, (Below.refl _ _).alloc (Nat.le_refl _) _⟩
          · go_round
            case rel => exact ⟨q + 1, _, by omega, by go_num, rfl⟩
            case measure => simp [intOf]; omega
        · go_wp2
          go_ret
          exact ⟨small2_true (by omega) (few_zero R) (by omega), (Below.refl _ _).alloc (Nat.le_refl _) _⟩

end Go.Proofs.Qxb6613118a
