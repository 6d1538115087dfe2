import Derived.Test.Qxb6609382aD
namespace Go.Proofs.Qxb6609382a.W
open Go.RowKit Go.Deep
attribute [local go_sem] run_store_float

/-- f for the first n, g behind them. -/
def catf (n : Nat) (f g : Nat → Nat) (i : Nat) : Nat := if i < n then f i else g (i - n)
theorem catf_lt {n : Nat} {f g : Nat → Nat} {i : Nat} (h : i < n) : catf n f g i = f i := if_pos h
theorem catf_ge {n : Nat} {f g : Nat → Nat} (i : Nat) : catf n f g (n + i) = g i := by
  unfold catf
  rw [if_neg (by omega), Nat.add_sub_cancel_left]

theorem placesL_congr {A A' B B' : Nat → Nat} {n : Nat} (h : ∀ i, i < n → A i = B i ∧ A' i = B' i) : placesL A A' n = placesL B B' n := by
  induction n with
  | zero => rfl
  | succ n ih =>
    rw [placesL_succ, placesL_succ, ih (fun i hi => h i (by omega)), (h n (by omega)).1, (h n (by omega)).2]
theorem starsL_congr {A A' B B' : Nat → Nat} {n : Nat} (h : ∀ i, i < n → A i = B i ∧ A' i = B' i) : starsL A A' n = starsL B B' n := by
  induction n with
  | zero => rfl
  | succ n ih =>
    rw [starsL_succ, starsL_succ, ih (fun i hi => h i (by omega)), (h n (by omega)).1, (h n (by omega)).2]
theorem placesL_cat (A A' B B' : Nat → Nat) (n k : Nat) : placesL (catf n A B) (catf n A' B') (n + k) = placesL A A' n ++ placesL B B' k := by
  induction k with
  | zero => simp only [Nat.add_zero]; rw [placesL_congr (B := A) (B' := A') (fun i hi => ⟨catf_lt hi, catf_lt hi⟩)]; simp [placesL]
  | succ k ih => rw [← Nat.add_assoc, placesL_succ, placesL_succ, ih, catf_ge, catf_ge, List.append_assoc]
theorem starsL_cat (A A' B B' : Nat → Nat) (n k : Nat) : starsL (catf n A B) (catf n A' B') (n + k) = starsL A A' n ++ starsL B B' k := by
  induction k with
  | zero => simp only [Nat.add_zero]; rw [starsL_congr (B := A) (B' := A') (fun i hi => ⟨catf_lt hi, catf_lt hi⟩)]; simp [starsL]
  | succ k ih => rw [← Nat.add_assoc, starsL_succ, starsL_succ, ih, catf_ge, catf_ge, List.append_assoc]

theorem first_left {D E : Nat → Nat} {m k K : Nat} (h : FirstNaN D m K) (hK : K < m) : FirstNaN (catf m D E) (m + k) K := by
  obtain ⟨a, b, c⟩ := h
  refine ⟨by omega, fun i hi => ?_, fun _ => ?_⟩
  · rw [catf_lt (by omega)]; exact b i hi
  · rw [catf_lt hK]; exact c hK
theorem first_right {D E : Nat → Nat} {m k K : Nat} (h : FirstNaN D m m) (h' : FirstNaN E k K) : FirstNaN (catf m D E) (m + k) (m + K) := by
  obtain ⟨a, b, c⟩ := h
  obtain ⟨a', b', c'⟩ := h'
  refine ⟨by omega, fun i hi => ?_, fun hl => ?_⟩
  · rcases Nat.lt_or_ge i m with hm | hm
    · rw [catf_lt hm]; exact b i hm
    · obtain ⟨j, rfl⟩ : ∃ j, i = m + j := ⟨i - m, by omega⟩
      rw [catf_ge]
      exact b' j (by omega)
  · rw [catf_ge]; exact c' (by omega)

theorem own_shape {w : World} {b : Nat} {e : TypeId} {size : Nat} {v : Value} {n : Nat} {xs : List Value} (h : w.ownsRow b e size v n xs) : ∃ a c, v = .slice a n c := by
  rcases h.2 with ⟨rfl, h0⟩ | ⟨g, cap, cur, rfl, _⟩
  · exact ⟨none, 0, by rw [h0]⟩
  · exact ⟨_, _, rfl⟩
theorem own_keep {w w' : World} {b : Nat} {e : TypeId} {size : Nat} {v : Value} {n : Nat} {xs : List Value} (h : w.ownsRow b e size v n xs) (hB : Below w.heap.size w w') : w'.ownsRow b e size v n xs := own_block h (fun g hg => hB.block g (h.lt g hg).2)

theorem own_dis' {w1 w2 : World} {b1 : Nat} {v sv : Value} {n m : Nat} {xs ys : List Value} (h1 : w1.ownsRow b1 39 2 v n xs) (h2 : w2.ownsRow w1.heap.size 58 8 sv m ys) : ∀ g, sv.ownBlock = some g → v.ownBlock ≠ some g := by
  intro g hg hv
  have a := (h2.lt g hg).1
  have b := (h1.lt g hv).2
  omega
theorem stars_nil' {w : World} {b : Nat} {v : Value} {m : Nat} {R D R2 D2 : Nat → Nat} (h : w.ownsRow b 58 8 v (m + 0) (starsL R D m ++ starsL R2 D2 0)) : w.ownsRow b 58 8 v m (starsL R D m) := by
  simpa [starsL] using h

set_option maxHeartbeats 4000000 in
set_option maxRecDepth 100000 in
theorem split_any (w : World) (pa fa sa : Option Addr) (n m1 m2 pc fc sc : Nat) (PR PD FR FD SR SD : Nat → Nat) (HP : Pairs w pa n PR PD) (HF : Pairs w fa m1 FR FD) (HS : Pairs w sa m2 SR SD) (hpn : pa = none → n = 0) :
    Calls Try.prog 4 #[.slice pa n pc, .slice fa m1 fc, .slice sa m2 sc] w fun e w' => e = .returned (.bool true) ∧ Below w.heap.size w w' := by
  have HP' : Hid (Pairs w pa n PR PD) := HP
  have HF' : Hid (Pairs w fa m1 FR FD) := HF
  have HS' : Hid (Pairs w sa m2 SR SD) := HS
  have Hpn : Hid (pa = none → n = 0) := hpn
  clear HP HF HS hpn
  by_cases g1 : (65536 : Int) < (n : Int)
  · go_enter Try.func4, Try.ntmps4
    go_wp2_with fail
    refine (bytesS_any pa fa sa n pc m1 fc m2 sc w).mono ?_
    rintro e w' ⟨⟨r, rfl⟩, rfl⟩
    cases r
    all_goals
      go_wp2_with fail
      go_ret
      exact ⟨rfl, Below.refl _ _⟩
  by_cases g2 : (65536 : Int) < (m1 : Int)
  · go_enter Try.func4, Try.ntmps4
    go_wp2_with fail
    refine (bytesS_any pa fa sa n pc m1 fc m2 sc w).mono ?_
    rintro e w' ⟨⟨r, rfl⟩, rfl⟩
    cases r
    all_goals
      go_wp2_with fail
      go_ret
      exact ⟨rfl, Below.refl _ _⟩
  by_cases g3 : (65536 : Int) < (m2 : Int)
  · go_enter Try.func4, Try.ntmps4
    go_wp2_with fail
    refine (bytesS_any pa fa sa n pc m1 fc m2 sc w).mono ?_
    rintro e w' ⟨⟨r, rfl⟩, rfl⟩
    cases r
    all_goals
      go_wp2_with fail
      go_ret
      exact ⟨rfl, Below.refl _ _⟩
  by_cases g4 : (1048576 : Int) < 16 * ((n : Int) + (m1 : Int) + (m2 : Int))
  · go_enter Try.func4, Try.ntmps4
    go_wp2_with fail
    refine (bytesS_any pa fa sa n pc m1 fc m2 sc w).mono ?_
    rintro e w' ⟨⟨r, rfl⟩, rfl⟩
    cases r
    all_goals
      go_wp2_with fail
      go_ret
      exact ⟨rfl, Below.refl _ _⟩
  go_enter Try.func4, Try.ntmps4
  go_wp2_with fail
  refine (bytesS_any pa fa sa n pc m1 fc m2 sc w).mono ?_
  rintro e w' ⟨⟨r, rfl⟩, rfl⟩
  cases r
  · go_wp2_with fail
    go_ret
    exact ⟨rfl, Below.refl _ _⟩
  -- the whole
  go_wp2_with fail
  refine (toPlaces_any w' pa n pc PR PD HP'.out (by omega) Hpn.out).mono ?_
  rintro e w1 ⟨v1, rfl, hown1, hB1⟩
  go_wp2_with fail
  refine (catalogue_any w1 fa sa m1 fc m2 sc FR FD SR SD (HF'.out.below hB1) (HS'.out.below hB1) (by omega) (by omega)).mono ?_
  rintro e w2 ⟨sv, rfl, hstars, hB2⟩
  rw [← starsL_cat] at hstars
  go_wp2_with fail
  refine (zzAppend_any w2 w'.heap.size w1.heap.size v1 sv n (m1 + m2) (placesL PR PD n) _ _ (own_keep hown1 hB2) hstars (own_dis' hown1 hstars) (by omega) (by have := hB1.size; have := hB2.size; omega)).mono ?_
  rintro e w3 ⟨KW, vW, hKW, rfl, hownW, hgrow3, hlies3⟩
  obtain ⟨oa, oc, rfl⟩ := own_shape hownW
  have hB3 : Below w'.heap.size w' w3 := (hB1.trans (hB2.mono hB1.size)).trans (gb_to_below hgrow3 (by have := hB1.size; have := hB2.size; omega) (fun g hg => (hown1.lt g hg).1))
  clear hown1 hB1 hB2 hstars hgrow3 hlies3
  go_wp2_with fail
  -- the first piece
  refine (toPlaces_any w3 pa n pc PR PD (HP'.out.below hB3) (by omega) Hpn.out).mono ?_
  rintro e w4 ⟨v2, rfl, hown2, hB4⟩
  go_wp2_with fail
  refine (catalogue_any w4 fa none m1 fc 0 0 FR FD FR FD ((HF'.out.below hB3).below hB4) (fun i hi => absurd hi (Nat.not_lt_zero _)) (by omega) (by omega)).mono ?_
  rintro e w5 ⟨sv2, rfl, hstars0, hB5⟩
  have hstars2 := stars_nil' hstars0
  clear hstars0
  go_wp2_with fail
  refine (zzAppend_any w5 w3.heap.size w4.heap.size v2 sv2 n m1 (placesL PR PD n) FR FD (own_keep hown2 hB5) hstars2 (own_dis' hown2 hstars2) (by omega) (by have := hB4.size; have := hB5.size; omega)).mono ?_
  rintro e w6 ⟨K1, vo1, hK1, rfl, hown6, hgrow6, hlies6⟩
  obtain ⟨oa1, oc1, rfl⟩ := own_shape hown6
  have hB6 : Below w3.heap.size w3 w6 := (hB4.trans (hB5.mono hB4.size)).trans (gb_to_below hgrow6 (by have := hB4.size; have := hB5.size; omega) (fun g hg => (hown2.lt g hg).1))
  have HW6 : Hid (w6.ownsRow w'.heap.size 39 2 (.slice oa (n + KW) oc) (n + KW) (placesL PR PD n ++ placesL (catf m1 FR SR) (catf m1 FD SD) KW)) := own_keep hownW hB6
  have hWlt : Hid (∀ g, (Value.slice oa (n + KW) oc).ownBlock = some g → g < w3.heap.size) := fun g hg => (hownW.lt g hg).2
  have HKW : Hid (FirstNaN (catf m1 FD SD) (m1 + m2) KW) := hKW
  have HK1 : Hid (FirstNaN FD m1 K1) := hK1
  have HO6 : Hid (w6.ownsRow w3.heap.size 39 2 (.slice oa1 (n + K1) oc1) (n + K1) (placesL PR PD n ++ placesL FR FD K1)) := hown6
  clear hown2 hB4 hB5 hstars2 hgrow6 hlies6 hownW hKW hown6
  have hKle := hK1.1
  clear hK1
  by_cases hf : K1 < m1
  · obtain rfl : K1 = KW := FirstNaN.uniq (first_left HK1.out hf) HKW.out
    have d1 : decide (K1 < m1) = true := by simpa using hf
    have d2 : decide (K1 < m1 + m2) = true := by simp; omega
    have i1 : idxOf (m1 + m2) K1 = K1 := by unfold idxOf; rw [if_pos (by omega)]
    have i2 : idxOf m1 K1 = K1 := by unfold idxOf; rw [if_pos hf]
    have HC := samePlaces_any w6 w'.heap.size w3.heap.size (.slice oa (n + K1) oc) (.slice oa1 (n + K1) oc1) (n + K1) (catf n PR FR) (catf n PD FD)
      (by rw [placesL_cat]; have h := HW6.out; rw [placesL_congr (B := FR) (B' := FD) (fun i hi => ⟨catf_lt (by omega), catf_lt (by omega)⟩)] at h; exact h) (by rw [placesL_cat]; exact HO6.out) (by omega)
    rw [d1, d2, i1, i2]
    clear d1 d2 i1 i2
    go_wp2_with fail
    refine HC.mono ?_
    rintro e w9 ⟨rfl, hB9⟩
    have hfin : Below w'.heap.size w' w9 := (hB3.trans (hB6.mono hB3.size)).trans (hB9.mono (by have := hB3.size; have := hB6.size; omega))
    go_wp2_with fail
    go_ret
    exact ⟨rfl, hfin⟩
  · obtain rfl : K1 = m1 := by omega
    have d1 : decide (K1 < K1) = false := by simp
    rw [d1]
    clear d1 hf
    go_wp2_with fail
    refine (catalogue_any w6 sa none m2 sc 0 0 SR SD SR SD (HS'.out.below (hB3.trans (hB6.mono hB3.size))) (fun i hi => absurd hi (Nat.not_lt_zero _)) (by omega) (by omega)).mono ?_
    rintro e w7 ⟨sv3, rfl, hstars0, hB7⟩
    have hstars3 := stars_nil' hstars0
    clear hstars0
    go_wp2_with fail
    refine (zzAppend_any w7 w3.heap.size w6.heap.size (.slice oa1 (n + K1) oc1) sv3 (n + K1) m2 (placesL PR PD n ++ placesL FR FD K1) SR SD (own_keep HO6.out hB7) hstars3 (own_dis' HO6.out hstars3) (by omega) (by have := hB6.size; have := hB7.size; omega)).mono ?_
    rintro e w8 ⟨K2, vo2, hK2, rfl, hown8, hgrow8, hlies8⟩
    obtain ⟨oa2, oc2, rfl⟩ := own_shape hown8
    have hK2le := hK2.1
    obtain rfl : K1 + K2 = KW := FirstNaN.uniq (first_right HK1.out hK2) HKW.out
    have hB8 : Below w3.heap.size w3 w8 := (hB6.trans (hB7.mono hB6.size)).trans (gb_to_below hgrow8 (by have := hB6.size; have := hB7.size; omega) (fun g hg => (HO6.out.lt g hg).1))
    have e1 : placesL PR PD n ++ placesL (catf K1 FR SR) (catf K1 FD SD) (K1 + K2) = placesL (catf n PR (catf K1 FR SR)) (catf n PD (catf K1 FD SD)) (n + (K1 + K2)) := (placesL_cat _ _ _ _ _ _).symm
    have e2 : placesL PR PD n ++ placesL FR FD K1 ++ placesL SR SD K2 = placesL (catf n PR (catf K1 FR SR)) (catf n PD (catf K1 FD SD)) (n + (K1 + K2)) := by rw [← e1, placesL_cat, List.append_assoc]
    have HC := samePlaces_any w8 w'.heap.size w3.heap.size (.slice oa (n + (K1 + K2)) oc) (.slice oa2 (n + K1 + K2) oc2) (n + (K1 + K2)) (catf n PR (catf K1 FR SR)) (catf n PD (catf K1 FD SD))
      (by rw [← e1]; exact own_block HW6.out (fun g hg => by
            have hl := HW6.out.lt g hg
            rw [(gb_to_below hgrow8 (B := w3.heap.size) (by have := hB6.size; have := hB7.size; omega) (fun k hk => (HO6.out.lt k hk).1)).block g (hWlt.out g hg), hB7.block g hl.2]))
      (by rw [← e2, ← Nat.add_assoc]; exact hown8) (by omega)
    clear e1 e2 hown8 hgrow8 hlies8 hstars3
    have hfin : ∀ w9, Below w8.heap.size w8 w9 → Below w'.heap.size w' w9 := fun w9 h => (hB3.trans (hB8.mono hB3.size)).trans (h.mono (by have := hB3.size; have := hB8.size; omega))
    have Hfin : Hid (∀ w9, Below w8.heap.size w8 w9 → Below w'.heap.size w' w9) := hfin
    clear hfin hK2
    by_cases hl : K2 < m2
    · have i1 : idxOf (K1 + m2) (K1 + K2) = (K1 : Int) + (K2 : Int) := by unfold idxOf; rw [if_pos (by omega)]; omega
      have i2 : idxOf m2 K2 = (K2 : Int) := by unfold idxOf; rw [if_pos hl]
      have dW : decide (K1 + K2 < K1 + m2) = true := by simp; omega
      have d2 : decide (K2 < m2) = true := by simpa using hl
      rw [i1, i2, dW, d2]
      clear i1 i2 dW d2
      go_wp2_with fail
      refine HC.mono ?_
      rintro e w9 ⟨rfl, hB9⟩
      have hf9 := Hfin.out w9 hB9
      go_wp2_with fail
      go_ret
      exact ⟨rfl, hf9⟩
    · obtain rfl : K2 = m2 := by omega
      have dW : decide (K1 + K2 < K1 + K2) = false := by simp
      have d2 : decide (K2 < K2) = false := by simp
      rw [dW, d2]
      clear dW d2
      go_wp2_with fail
      refine HC.mono ?_
      rintro e w9 ⟨rfl, hB9⟩
      have hq : ((n : Int) + ((K1 : Int) + (K2 : Int)) == (n : Int) + (K1 : Int) + (K2 : Int)) = true := by rw [beq_iff_eq]; omega
      have hf9 := Hfin.out w9 hB9
      go_wp2_with fail
      go_ret
      exact ⟨rfl, hf9⟩
end Go.Proofs.Qxb6609382a.W
