import Derived.Test.Qxb6613257aLaw
namespace Go.Proofs.Qxb6613257a
open Go.RowKit

theorem Try.info9 : (Try.prog.info? 9).map (fun i => (i.zero, i.size, i.bytes)) = some (some (.string ⟨#[]⟩), 1, 16) := by kernel_rfl
theorem Try.info29 : (Try.prog.info? 29).map (fun i => (i.zero, i.size, i.bytes)) = some (some (.agg #[.nilFunc]), 1, 8) := by kernel_rfl

/-- a slice's length: the last loop's measure -/
def lenOf : Value → Nat
  | .slice _ n _ => n
  | _ => 0

set_option maxRecDepth 100000 in
set_option maxHeartbeats 4000000 in
theorem main (ao : Option Addr) (n c : Nat) (K : Nat → ByteArray) (w : World) (hn : n ≤ 4096) (hc : KeysAt w ao n K) :
    Calls Try.prog 3 #[.slice ao n c] w fun e w' => e = .returned (.bool true) ∧ Below w.heap.size w w' := by
  have HC := hide hc
  clear hc
  have hd1 : decide ((4096 : Int) < (n : Int)) = false := decide_eq_false (by omega)
  obtain ⟨i9, hi9, hz9, hs9, hb9⟩ := info_parts Try.info9
  obtain ⟨i29, hi29, hz29, hs29, hb29⟩ := info_parts Try.info29
  go_enter Try.func3, Try.ntmps3
  go_wp2_with fail
  refine (bytes_any ao n c K w HC.out).mono ?_
  rintro e w' ⟨⟨r, rfl⟩, rfl⟩
  cases r
  · go_wp2
    go_ret
    exact ⟨rfl, Below.refl _ _⟩
  go_wp2_with fail
  go_loop [3, 4] (fun t i => ∃ (k : Nat) (x : Int), k ≤ n ∧ i = .int .i64 k ∧ t = .int .i64 x) (fun _ i => n - (intOf i).toNat)
  case atStart => exact ⟨0, _, Nat.zero_le _, rfl, rfl⟩
  case round =>
    obtain ⟨k, x, hk, rfl, rfl⟩ := hrel
    by_cases hlt : k < n
    · clear hi9 hz9 hs9 hb9 hi29 hz29 hs29 hb29
      obtain ⟨b, off, rfl, hb, q0⟩ := HC.out k hlt
      go_wp2
      · go_ret
        exact ⟨rfl, Below.refl _ _⟩
      · go_round
        case rel => exact ⟨k + 1, _, by omega, by go_num, rfl⟩
        case measure => simp [intOf]; omega
    go_wp2_with fail
    refine (newLocks w').mono ?_
    rintro e w1 ⟨rfl, hw1⟩
    have hL : LocksAt w1 (w'.heap.size + 1) w'.heap.size 0 := by rw [hw1]; exact new_of (by simp)
    have hM : w1.heap[w'.heap.size]? = some (.map #[] 0) := by rw [hw1, Below.heap_alloc _ _ _ (by simp)]; exact new_of rfl
    have hs1 : w1.heap.size = w'.heap.size + 2 := by rw [hw1]; simp
    have hO1 : Only [] w' w1 := by rw [hw1]; exact ((Only.refl _ w').alloc _).alloc _
    have H1 := hide (And.intro (Inv.nil hL hM) hO1)
    clear hL hM hO1 hw1
    go_wp2_with (first | (at_make; refine wpList_make_own _ rfl _ _ _ rfl w1.heap.size _ _ _ _ Try.underlying22 hi9 hz9 hs9 _ _ _ n rfl rfl rfl (by rw [hb9]; omega) (by unfold maxLen; omega) (Nat.le_refl _) ?_))
    intro w2 hown2 hgr2
    have H2 := hide (And.intro (RowAt.of hown2) (Only.grown hgr2))
    clear hown2 hgr2
    go_wp2_with (first | (at_make; refine wpList_make_own _ rfl _ _ _ rfl w2.heap.size _ _ _ _ Try.underlying26 hi29 hz29 hs29 _ _ _ n rfl rfl rfl (by rw [hb29]; omega) (by unfold maxLen; omega) (Nat.le_refl _) ?_))
    intro w3 hown3 hgr3
    have HS := hide (St.start H1.out H2.out.1 H2.out.2 (RowAt.of hown3) (Only.grown hgr3))
    clear H1 H2 hown3 hgr3 hs1 hz9 hb9 hz29 hb29
    generalize w2.heap.size = D at *
    have hSz := HS.out.hD
    go_wp2_with fail
    go_loopw [6, 7, 8] (fun hk hd i wr => ∃ (k m : Nat) (hs : List Ent), k ≤ n ∧ m ≤ k ∧ hk = .slice (some ⟨w'.heap.size + 2, 0, none⟩) m n ∧ hd = .slice (some ⟨D, 0, none⟩) m n ∧ i = .int .i64 k ∧ Hid (hs.length = m ∧ St w' wr D n hs)) (fun _ _ i _ => n - (intOf i).toNat)
    case atStart => exact ⟨0, 0, [], Nat.zero_le _, Nat.le_refl _, rfl, rfl, rfl, rfl, HS.out⟩
    case round =>
      clear HS hlt hk
      obtain ⟨k, m, hs, hk, hm, rfl, rfl, rfl, HS⟩ := hrel
      by_cases hlt : k < n
      · obtain ⟨b, off, rfl, hb, q0⟩ := (HC.out.below HS.out.2.bel) k hlt
        generalize K k = key at q0
        go_wp2_with fail
        go_loop [10, 11] (fun a j => ∃ q : Nat, q ≤ m ∧ a = .int .i64 (-1) ∧ j = .int .i64 q ∧ Hid (∀ t e, t < q → hs[t]? = some e → e.key.toList ≠ key.toList)) (fun _ j => m - (intOf j).toNat)
        case atStart => exact ⟨0, Nat.zero_le _, rfl, rfl, fun t e ht => absurd ht (Nat.not_lt_zero _)⟩
        case round =>
          obtain ⟨q, hq, rfl, rfl, HQ⟩ := hrel
          by_cases hqm : q < m
          · obtain ⟨e, he⟩ : ∃ e, hs[q]? = some e := ⟨hs[q]'(by rw [HS.out.1]; exact hqm), by simp⟩
            have c0 : wr.cell? ⟨w'.heap.size + 2, q, none⟩ = some (.string e.key) := HS.out.2.rk.cell (by simp [he])
            have HE := hide he
            clear he
            by_cases heq : e.key.toList = key.toList
            · have heb : (e.key.toList == key.toList) = true := by simpa using heq
              have HEQ := hide heq
              clear heq
              have h0 : wr.cell? ⟨D, q, none⟩ = some e.free := HS.out.2.rh.cell (by simp [HE.out])
              unfold Ent.free at h0
              go_wp2_with fail
              refine (unlockI HS.out.2.inv (swapOut_perm HE.out)).mono ?_
              rintro y w1 ⟨rfl, hI1, hO1⟩
              clear c0 h0 heb q0 HQ
              obtain ⟨p, rfl⟩ : ∃ p, m = p + 1 := ⟨m - 1, by omega⟩
              have hlen := HS.out.1
              obtain ⟨z, hz⟩ : ∃ z, hs[hs.length - 1]? = some z := ⟨hs[hs.length - 1]'(by omega), by simp⟩
              have hem : e ∈ hs := List.mem_of_getElem? HE.out
              obtain ⟨rk, rh, _⟩ := HS.out.2.freed hem hO1
              have hzp : hs[p]? = some z := by rw [← hz, hlen]; rfl
              have a0 : w1.cell? ⟨w'.heap.size + 2, p, none⟩ = some (.string z.key) := rk.cell (by simp [hzp])
              have a1 : w1.cell? ⟨w'.heap.size + 2, q, none⟩ = some (.string e.key) := rk.cell (by simp [HE.out])
              have a2 := rk.frozen q
              have b0 : w1.cell? ⟨D, p, none⟩ = some z.free := rh.cell (by simp [hzp])
              have b1 : w1.cell? ⟨D, q, none⟩ = some e.free := rh.cell (by simp [HE.out])
              have b2 := rh.frozen q
              have HS3 := hide (HS.out.2.swapped HE.out hz hI1 hO1)
              have HZ := hide (And.intro hz hem)
              have hcast : ((p + 1 : Nat) : Int) - 1 = p := by omega
              clear hI1 hO1 hz hem rk rh hzp hlen
              unfold Ent.free at b0 b1 HS3
              go_wp2_with fail
              clear a0 a1 a2 b0 b1 b2 hcast
              generalize (w1.setCell ⟨w'.heap.size + 2, q, none⟩ (.string z.key)).setCell ⟨D, q, none⟩ _ = w3 at *
              have hl : (swapOut hs q).length = p := by rw [swapOut_length, HS.out.1]; rfl
              refine (entriesI HS3.out.inv).mono ?_
              rintro y w4 ⟨rfl, rfl⟩
              rw [hl]
              have HL := hide hl
              clear hl
              go_wp2_with fail
              refine (hasI_no (k := key) HS3.out.inv ?_).mono ?_
              · rw [← HEQ.out]; exact swapOut_apart HE.out HS.out.2.inv.keys
              rintro y w5 ⟨rfl, rfl⟩
              go_wp2_with fail
              exact ⟨⟨k + 1, p, swapOut hs q, by omega, by omega, rfl, rfl, by go_num, HL.out, HS3.out⟩, by simp [intOf]; omega⟩
            · have heb : (e.key.toList == key.toList) = false := by simpa using heq
              have HEQ := hide heq
              clear heq
              go_wp2_with fail
              refine ⟨⟨q + 1, by omega, rfl, by go_num, fun t e' ht he' => ?_⟩, by simp [intOf]; omega⟩
              by_cases htq : t < q
              · exact HQ.out t e' htq he'
              · obtain rfl : t = q := by omega
                have := HE.out
                rw [he'] at this
                obtain rfl := Option.some.inj this
                exact HEQ.out
          · obtain rfl : q = m := by omega
            clear hqm hq
            have HA : Hid (∀ e ∈ hs, e.key.toList ≠ key.toList) := by
              intro e he
              obtain ⟨t, ht, rfl⟩ := List.mem_iff_getElem.1 he
              exact HQ.out t _ (by rw [← HS.out.1]; exact ht) (by simp)
            clear q0 HQ
            have hneq : ∀ w, (binOp .neq 33 .nilIface .nilIface).run Try.prog w = .ok (.bool false) w := fun _ => by rfl
            go_wp2_with fail
            refine (lockI HS.out.2.inv HA.out).mono ?_
            rintro y w1 ⟨rfl, hI1, hO1⟩
            have HI1 := hide (And.intro hI1 hO1)
            clear hI1 hO1
            unfold Ent.free
            have o3 : Only [] w1 ((w1.alloc (.cells #[.func (.func 16) #[] #[.pointer (some ⟨wr.heap.size + 1 + 2, 0, none⟩), .pointer (some ⟨wr.heap.size + 1 + 5, 0, none⟩)]] 29)).alloc (.cells #[.string key] 9)) := ((Only.refl _ w1).alloc _).alloc _
            have Hown := hide ((((HS.out.2.rk.only HI1.out.2 (by simp)).only o3 (by simp))).owns q (by simpa using HS.out.1))
            have HO3 := hide o3
            clear o3
            go_wp2_with (first | (at_builtin; refine wpList_append_fits _ rfl _ _ _ rfl (w'.heap.size + 2) _ _ _ Try.underlying22 hi9 hs9 (w'.heap.size + 2) q n _ rfl Hown.out ⟨w1.heap.size + 1, 0, none⟩ 1 1 [.string key] rfl rfl ?_ (by simp [Value.oneCell']) (by omega) ?_))
            · exact one_cell (new_of (by simp))
            intro w4 hown4 hgr4
            have o4 := Only.grownAt hgr4
            have hsz := HS.out.2.size
            have hsz1 := HI1.out.2.size
            have r4 := RowAt.of hown4
            have v4 : w4.heap[w1.heap.size]? = some (.cells #[.func (.func 16) #[] #[.pointer (some ⟨wr.heap.size + 1 + 2, 0, none⟩), .pointer (some ⟨wr.heap.size + 1 + 5, 0, none⟩)]] 29) := o4.get (by rw [Below.heap_alloc _ _ _ (by simp)]; exact new_of rfl) (by simp; omega)
            have x4 : w4.cell? ⟨w1.heap.size, 0, none⟩ = some (.func (.func 16) #[] #[.pointer (some ⟨wr.heap.size + 1 + 2, 0, none⟩), .pointer (some ⟨wr.heap.size + 1 + 5, 0, none⟩)]) := cell_of v4 (by rfl)
            have rh4 := ((HS.out.2.rh.only HI1.out.2 (by simp; omega)).only HO3.out (by simp)).only o4 (by simp; omega)
            have o5 : Only [] w4 (w4.alloc (.cells #[.func (.func 16) #[] #[.pointer (some ⟨wr.heap.size + 1 + 2, 0, none⟩), .pointer (some ⟨wr.heap.size + 1 + 5, 0, none⟩)]] 29)) := (Only.refl _ w4).alloc _
            have Hown5 := hide ((rh4.only o5 (by simp)).owns q (by simpa using HS.out.1))
            have H4 := hide (And.intro r4 (And.intro o4 o5))
            clear hown4 hgr4 o4 r4 v4 rh4 o5 Hown
            go_wp2_with (first | (at_builtin; refine wpList_append_fits _ rfl _ _ _ rfl D _ _ _ Try.underlying26 hi29 hs29 D q n _ rfl Hown5.out ⟨w4.heap.size, 0, none⟩ 1 1 [.func (.func 16) #[] #[.pointer (some ⟨wr.heap.size + 1 + 2, 0, none⟩), .pointer (some ⟨wr.heap.size + 1 + 5, 0, none⟩)]] rfl rfl ?_ (by simp [Value.oneCell']) (by omega) ?_))
            · exact one_cell (new_of rfl)
            intro w6 hown6 hgr6
            have HS6 := hide (HS.out.2.locked HI1.out HO3.out H4.out.1 H4.out.2.1 (w5 := w6) (RowAt.of hown6) ((H4.out.2.2.mono (by simp)).trans (Only.grownAt hgr6)))
            have HL : Hid ((hs ++ [(⟨key, wr.heap.size + 1⟩ : Ent)]).length = q + 1) := by unfold Hid; simp [HS.out.1]
            clear hown6 hgr6 x4 H4 Hown5 HO3 hsz hsz1
            go_wp2_with fail
            refine (entriesI HS6.out.inv).mono ?_
            rintro y w7 ⟨rfl, rfl⟩
            rw [HL.out]
            go_wp2_with fail
            refine (hasI_yes (e := ⟨key, wr.heap.size + 1⟩) HS6.out.inv (by simp)).mono ?_
            rintro y w8 ⟨rfl, rfl⟩
            go_wp2_with fail
            refine (usersI (e := ⟨key, wr.heap.size + 1⟩) HS6.out.inv (by simp)).mono ?_
            rintro y w9 ⟨rfl, rfl⟩
            go_wp2_with fail
            exact ⟨⟨k + 1, q + 1, _, by omega, by omega, rfl, rfl, by go_num, HL.out, HS6.out⟩, by simp [intOf]; omega⟩
      · clear hi9 hs9 hi29 hs29
        go_wp2_with fail
        go_loopw [6, 7] (fun hk hd wr => ∃ (m : Nat) (hs : List Ent), m ≤ n ∧ hk = .slice (some ⟨w'.heap.size + 2, 0, none⟩) m n ∧ hd = .slice (some ⟨D, 0, none⟩) m n ∧ Hid (hs.length = m ∧ St w' wr D n hs)) (fun hk _ _ => lenOf hk)
        case atStart => exact ⟨m, hs, by omega, rfl, rfl, HS.out⟩
        case round =>
          clear HS hm
          obtain ⟨m, hs, hm, rfl, rfl, HS⟩ := hrel
          by_cases hm0 : 0 < m
          · obtain ⟨p, rfl⟩ : ∃ p, m = p + 1 := ⟨m - 1, by omega⟩
            have hlen := HS.out.1
            obtain ⟨e, he⟩ : ∃ e, hs[hs.length - 1]? = some e := ⟨hs[hs.length - 1]'(by omega), by simp⟩
            have hep : hs[p]? = some e := by rw [← he, hlen]; rfl
            have a0 : wr.cell? ⟨w'.heap.size + 2, p, none⟩ = some (.string e.key) := HS.out.2.rk.cell (by simp [hep])
            have b0 : wr.cell? ⟨D, p, none⟩ = some e.free := HS.out.2.rh.cell (by simp [hep])
            have HE := hide he
            have hcast : ((p + 1 : Nat) : Int) - 1 = p := by omega
            clear he hep hlen
            unfold Ent.free at b0
            go_wp2_with fail
            refine (unlockI HS.out.2.inv (swapOut_perm HE.out)).mono ?_
            rintro y w1 ⟨rfl, hI1, hO1⟩
            have HS3 := hide (HS.out.2.popped HE.out hI1 hO1)
            have HL : Hid ((swapOut hs (hs.length - 1)).length = p) := by unfold Hid; rw [swapOut_length, HS.out.1]; rfl
            clear hI1 hO1 a0 b0
            go_wp2_with fail
            refine (entriesI HS3.out.inv).mono ?_
            rintro y w4 ⟨rfl, rfl⟩
            rw [HL.out]
            go_wp2_with fail
            refine (hasI_no (k := e.key) HS3.out.inv (swapOut_apart HE.out HS.out.2.inv.keys)).mono ?_
            rintro y w5 ⟨rfl, rfl⟩
            go_wp2_with fail
            exact ⟨⟨p, _, by omega, rfl, rfl, HL.out, HS3.out⟩, by simp [lenOf]⟩
          · obtain rfl : m = 0 := by omega
            go_wp2_with fail
            go_ret
            exact ⟨rfl, HS.out.2.bel⟩
end Go.Proofs.Qxb6613257a
