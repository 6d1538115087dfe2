import Derived.Test.Qxb6609382aE
import Derived.Deep.CutBlock
namespace Go.Proofs.Qxb6609382a.W
open Go.RowKit Go.Deep
attribute [local go_sem] run_store_float

/-- Toward one catalogue: toPlaces and catalogueOfBoth lie in different memory. -/
theorem own_dis {w1 w2 : World} {b1 : Nat} {v sv : Value} {n m : Nat} {xs ys : List Value} (h1 : w1.ownsRow b1 39 2 v n xs) (h2 : w2.ownsRow w1.heap.size 58 8 sv m ys) : ∀ g, sv.ownBlock = some g → v.ownBlock ≠ some g := by
  intro g hg hv
  have a := (h2.lt g hg).1
  have b := (h1.lt g hv).2
  omega

theorem stars_nil {w : World} {b : Nat} {v : Value} {m : Nat} {R D R2 D2 : Nat → Nat} (h : w.ownsRow b 58 8 v (m + 0) (starsL R D m ++ starsL R2 D2 0)) : w.ownsRow b 58 8 v m (starsL R D m) := by
  simpa [starsL] using h

set_option maxHeartbeats 4000000 in
set_option maxRecDepth 100000 in
theorem exact_any (w : World) (pa sa : Option Addr) (n m pc sc : Nat) (PR PD SR SD : Nat → Nat) (HP : Pairs w pa n PR PD) (HS : Pairs w sa m SR SD) (hpn : pa = none → n = 0) :
    Calls Try.prog 3 #[.slice pa n pc, .slice sa m sc] w fun e w' => e = .returned (.bool true) ∧ Below w.heap.size w w' := by
  have HP' : Hid (Pairs w pa n PR PD) := HP
  have HS' : Hid (Pairs w sa m SR SD) := HS
  have Hpn : Hid (pa = none → n = 0) := hpn
  clear HP HS hpn
  by_cases g1 : (65536 : Int) < (n : Int)
  · go_enter Try.func3, Try.ntmps3
    go_wp2_with fail
    refine (bytesE_any pa sa n pc m sc w).mono ?_
    rintro e w' ⟨⟨r, rfl⟩, rfl⟩
    cases r
    all_goals
      go_wp2_with fail
      go_ret
      exact ⟨rfl, Below.refl _ _⟩
  by_cases g2 : (65536 : Int) < (m : Int)
  · go_enter Try.func3, Try.ntmps3
    go_wp2_with fail
    refine (bytesE_any pa sa n pc m sc w).mono ?_
    rintro e w' ⟨⟨r, rfl⟩, rfl⟩
    cases r
    all_goals
      go_wp2_with fail
      go_ret
      exact ⟨rfl, Below.refl _ _⟩
  by_cases g3 : (1048576 : Int) < 16 * (n : Int) + 16 * (m : Int)
  · go_enter Try.func3, Try.ntmps3
    go_wp2_with fail
    refine (bytesE_any pa sa n pc m sc w).mono ?_
    rintro e w' ⟨⟨r, rfl⟩, rfl⟩
    cases r
    all_goals
      go_wp2_with fail
      go_ret
      exact ⟨rfl, Below.refl _ _⟩
  go_enter Try.func3, Try.ntmps3
  go_wp2_with fail
  refine (bytesE_any pa sa n pc m sc w).mono ?_
  rintro e w' ⟨⟨r, rfl⟩, rfl⟩
  cases r
  · go_wp2_with fail
    go_ret
    exact ⟨rfl, Below.refl _ _⟩
  go_wp2_with fail
  refine (toPlaces_any w' pa n pc PR PD HP'.out (by omega) Hpn.out).mono ?_
  rintro e w1 ⟨v1, rfl, hown1, hB1⟩
  go_wp2_with fail
  refine (catalogue_any w1 sa none m sc 0 0 SR SD SR SD (HS'.out.below hB1) (fun i hi => absurd hi (Nat.not_lt_zero _)) (by omega) (by omega)).mono ?_
  rintro e w2 ⟨sv, rfl, hstars0, hB2⟩
  have hstars := stars_nil hstars0
  clear hstars0
  go_wp2_with fail
  refine (zzAppend_any w2 w'.heap.size w1.heap.size v1 sv n m (placesL PR PD n) SR SD (own_block hown1 (fun g hg => hB2.block g (hown1.lt g hg).2)) hstars (own_dis hown1 hstars) (by omega) (by have := hB1.size; have := hB2.size; omega)).mono ?_
  rintro e w3 ⟨K, v', hK, rfl, hown3, hgrow3, hlies3⟩
  have hB3 : Below w'.heap.size w' w3 := (hB1.trans (hB2.mono hB1.size)).trans (gb_to_below hgrow3 (by have := hB1.size; have := hB2.size; omega) (fun g hg => (hown1.lt g hg).1))
  have hv' : ∃ a c, v' = .slice a (n + K) c := by
    rcases hown3.2 with ⟨rfl, h0⟩ | ⟨g, cap, cur, rfl, _⟩
    · exact ⟨none, 0, by rw [h0]⟩
    · exact ⟨_, _, rfl⟩
  obtain ⟨oa, oc, rfl⟩ := hv'
  go_upto_block 0 with fail
  go_cut [8, 9] (fun v _ wc => v = .int .i64 K ∧ Below w3.heap.size w3 wc)
  case first =>
    have HK : Hid (FirstNaN SD m K) := hK
    have HS3 : Hid (Pairs w3 sa m SR SD) := HS'.out.below hB3
    clear hown1 hB1 hB2 hstars hown3 hgrow3 hlies3 hB3 hK HP' HS' Hpn
    go_wp2_with fail
    go_loopw [8, 9] (fun v i wr => ∃ k : Nat, k ≤ m ∧ i = .int .i64 k ∧ v = .int .i64 m ∧ Hid (∀ j, j < k → nan (SD j) = false) ∧ Below w3.heap.size w3 wr) (fun _ i _ => m - (intOf i).toNat)
    case atStart => exact ⟨0, Nat.zero_le _, rfl, rfl, fun j hj => absurd hj (Nat.not_lt_zero _), Below.refl _ _⟩
    case round =>
      rename World => wA
      obtain ⟨k, hk, rfl, rfl, hnans, hbel⟩ := hrel
      by_cases hlt : k < m
      · obtain ⟨b, off, he, _, hc1⟩ := HS3.out k hlt
        subst he
        have y1 : wA.cell? ⟨b, off + k * 2 + 1, none⟩ = some (.float .f64 (SD k)) := by rw [hbel.cell (by exact lt_of_cell hc1)]; exact hc1
        clear hc1
        cases hnan : nan (SD k)
        · have hnans2 : Hid (∀ i, i < k + 1 → nan (SD i) = false) := fun i hi => by
            rcases Nat.lt_or_eq_of_le (Nat.le_of_lt_succ hi) with h | rfl
            · exact hnans.out i h
            · exact hnan
          unfold nan at hnan
          go_wp2_with fail
          go_quiet (fail)
          go_wp2_with fail
          go_roundw
          case rel => exact ⟨k + 1, by omega, by go_num, rfl, hnans2, below_drewN hbel _⟩
          case measure => simp [intOf]; omega
        · have hKk : Hid (k = K) := FirstNaN.uniq (D := SD) (m := m) ⟨hk, hnans.out, fun _ => hnan⟩ HK.out
          unfold nan at hnan
          go_wp2_with fail
          go_quiet (fail)
          go_wp2_with fail
          go_meet
          case rel => exact ⟨by rw [hKk.out], below_drewN hbel _⟩
      · obtain rfl : k = m := by omega
        have hKk : Hid (k = K) := FirstNaN.uniq (D := SD) (m := k) ⟨hk, hnans.out, fun h => absurd h (Nat.lt_irrefl _)⟩ HK.out
        clear hlt
        go_wp2_with fail
        go_meet
        case rel => exact ⟨by rw [hKk.out], hbel⟩
  case rest =>
    rename World => w4
    obtain ⟨rfl, hB4⟩ := hcut
    rename_i hK2
    refine hK2 _ _ ?_
    have hBB : Below w'.heap.size w' w4 := hB3.trans (hB4.mono hB3.size)
    exact restE14 w' w4 pa sa oa n m pc sc oc K PR PD SR SD (own_mono (own_block hown3 (fun g hg => hB4.block g (hown3.lt g hg).2)) (Nat.zero_le _)) (HP'.out.below hBB) (HS'.out.below hBB) hK.1 hBB (by omega) (by omega) _ _ _ _ _ _ _ _ _ _ _ _ _ _ _ _ _ _ _ _ _ _ _ _ _ _ _ _ _ _ _ _ _ _ _ _ _ _ _ _ _ _ _ _ _ _ _ _ _ _ _ _ _ _ _ _ _ _ _ _ _ _ _ _ _ _ _ _ _ _ _ _ _ _ _ _ _ _ _ _ _ _ _ _ _ _ _ _ _ _ _ _ _ _ _ _ _ _ _ _ _ _ _ _ _ _ _ _ _ _ _ _ _ _ _ _ _ _ _ _
end Go.Proofs.Qxb6609382a.W
