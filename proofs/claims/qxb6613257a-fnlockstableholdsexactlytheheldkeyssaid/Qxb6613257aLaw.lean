import Derived.Test.Qxb6613257aRow
import Derived.WalkSpells
import Derived.WalkLawsBesides
namespace Go.Proofs.Qxb6613257a
open Go.RowKit

/-- n strings from ao on; of an empty slice's address nothing is said -/
def KeysAt (w : World) (ao : Option Addr) (n : Nat) (K : Nat → ByteArray) : Prop :=
  ∀ j, j < n → ∃ b off, ao = some ⟨b, off, none⟩ ∧ b < w.heap.size ∧ w.cell? ⟨b, off + j, none⟩ = some (.string (K j))

theorem KeysAt.below {w w' : World} {ao : Option Addr} {n : Nat} {K : Nat → ByteArray} (h : KeysAt w ao n K) (hb : Below w.heap.size w w') : KeysAt w' ao n K := by
  intro j hj
  obtain ⟨b, off, rfl, hbs, hq⟩ := h j hj
  exact ⟨b, off, rfl, Nat.lt_of_lt_of_le hbs hb.size, by rw [hb.cell hbs]; exact hq⟩

/-- the call returns one bool or the other -/
def AnyBool (e : Ending) : Prop := ∃ r : Bool, e = .returned (.bool r)
theorem anyBool (r : Bool) : AnyBool (.returned (.bool r)) := ⟨r, rfl⟩

set_option maxHeartbeats 1000000 in
theorem bytes_any (ao : Option Addr) (n c : Nat) (K : Nat → ByteArray) (w : World) (hc : KeysAt w ao n K) :
    Calls Try.prog 4 #[.slice ao n c] w fun e w' => AnyBool e ∧ w' = w := by
  have HC := hide hc
  clear hc
  by_cases hbig : 1048576 < n
  · go_enter Try.func4, Try.ntmps4
    go_wp2
    go_ret
    exact ⟨anyBool _, rfl⟩
  go_enter Try.func4, Try.ntmps4
  go_wp2
  go_loop [3, 4] (fun t i => ∃ (k : Nat) (x : Int), k ≤ n ∧ i = .int .i64 k ∧ t = .int .i64 x) (fun _ i => n - (intOf i).toNat)
  case atStart => exact ⟨0, _, Nat.zero_le _, rfl, rfl⟩
  case round =>
    obtain ⟨k, x, hk, rfl, rfl⟩ := hrel
    by_cases hlt : k < n
    · obtain ⟨b, off, rfl, hb, q0⟩ := HC.out k hlt
      go_wp2
      · go_ret
        exact ⟨anyBool _, rfl⟩
      · go_ret
        exact ⟨anyBool _, rfl⟩
      · go_round
        case rel => exact ⟨k + 1, _, by omega, by go_num, rfl⟩
        case measure => simp [intOf]; omega
    · go_wp2
      go_ret
      exact ⟨anyBool _, rfl⟩
end Go.Proofs.Qxb6613257a
