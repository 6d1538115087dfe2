import Derived.Test.Qxb6609382aFmtFe
/-! Go's cosine: the reduction of the argument. -/
namespace Go.Proofs.Qxb6609382aFmt.Fl

def K4 : Rat := 5734161139222659 / 4503599627370496
theorem fv_K4 : fv 4608412980311869571 = some K4 := by decide +kernel
theorem K4_Q4 : K4 * Q4 ≤ 1 + 1 / 10000000000000000 ∧ 1 ≤ K4 * Q4 := by decide +kernel
def W64 (j : Nat) : Nat := floatOfInt .f64 (j : Int)

theorem mulPA_all : ∀ j : Fin 132, (Ieee.double.mul (W64 j.val) 4605249456957292544).bind fv = some ((j.val : Rat) * PA) := by decide +kernel
theorem mulPB_all : ∀ j : Fin 132, (Ieee.double.mul (W64 j.val) 4495793288086814720).bind fv = some ((j.val : Rat) * PB) := by decide +kernel
theorem incr_all : ∀ j : Fin 132, Ieee.double.add (W64 j.val) 4607182418800017408 = some (W64 (j.val + 1)) := by decide +kernel
theorem mulPA (j : Nat) (h : j < 132) : ∃ r, Ieee.double.mul (W64 j) 4605249456957292544 = some r ∧ fv r = some ((j : Rat) * PA) := by
  have := mulPA_all ⟨j, h⟩
  simp only [] at this
  exact Option.bind_eq_some_iff.1 this
theorem mulPB (j : Nat) (h : j < 132) : ∃ r, Ieee.double.mul (W64 j) 4495793288086814720 = some r ∧ fv r = some ((j : Rat) * PB) := by
  have := mulPB_all ⟨j, h⟩
  simp only [] at this
  exact Option.bind_eq_some_iff.1 this
theorem incr (j : Nat) (h : j < 132) : Ieee.double.add (W64 j) 4607182418800017408 = some (W64 (j + 1)) := incr_all ⟨j, h⟩

/-- What the reduction finds: the octant's number n, made even, and what is left. -/
theorem reduce {ax : Nat} {b : Rat} (hb : fv ax = some b) (h0 : 0 ≤ b) (h1 : b ≤ 100) :
    ∃ p n, Ieee.double.mul ax 4608412980311869571 = some p ∧ floatToIntVal .f64 p .u64 = some ((n : Nat) : Int) ∧ n ≤ 129 ∧ (n : Rat) * Q4 ≤ b + 1 / 1000000000000 ∧
    ∀ j : Nat, j = n + n % 2 → ∃ m1 d1 m2 d2 m3 z,
      Ieee.double.mul (W64 j) 4605249456957292544 = some m1 ∧ Ieee.double.sub ax m1 = some d1 ∧
      Ieee.double.mul (W64 j) 4495793288086814720 = some m2 ∧ Ieee.double.sub d1 m2 = some d2 ∧
      Ieee.double.mul (W64 j) 4388835458085048688 = some m3 ∧ Ieee.double.sub d2 m3 = some z ∧
      Fx z (b - (j : Rat) * Q4) (786 / 1000) (1 / 1000000000000000) ∧ Bd (b - (j : Rat) * Q4) (Q4 + 1 / 1000000000000) := by
  have q1 := Q4_lo; have q2 := Q4_hi; have kq := K4_Q4
  have hx : Fx ax b 100 0 := Fx.lit hb ⟨h1, by grind⟩
  have hk : Fx 4608412980311869571 K4 (12733 / 10000) 0 := Fx.lit fv_K4 (by constructor <;> decide +kernel)
  obtain ⟨p, hp, q, hq, eq, _⟩ := Fx.mul 7 (1274 / 10) (1 / 10000000000000) hx hk (by decide +kernel)
  have hkp : 0 < K4 := by decide +kernel
  have hbk : 0 ≤ b * K4 := mul_nn h0 (Rat.le_of_lt hkp)
  -- the product is never below nought: its word is the nearest to a number that is not
  have hq0 : 0 ≤ q := by
    obtain ⟨s, m, i, hr, hbm⟩ := fv_some hb
    have hs : s = true → m = 0 := by
      intro hs; subst hs
      rcases Nat.eq_zero_or_pos m with h | h
      · exact h
      · exfalso
        have := Rat.mul_pos (Rat.natCast_pos.2 h) (p2_pos i)
        simp only [sgn] at hbm
        grind
    have hmul : Ieee.double.mul ax 4608412980311869571 = some (Ieee.double.write (.number (s ^^ false) (m * 5734161139222659) (i + -52))) := by
      unfold Ieee.Format.mul
      rw [hr, show Ieee.double.read 4608412980311869571 = .number false 5734161139222659 (-52) by decide +kernel]
      rfl
    rw [hp] at hmul
    cases hmul
    cases s
    · have : ∀ m i q, fv (Ieee.double.write (.number false m i)) = some q → 0 ≤ q := by
        intro m i q h
        obtain ⟨s', m', i', hr', hq'⟩ := fv_some h
        have hneg : s' = false := by
          have h2 : Ieee.double.write (.number false m i) < 9223372036854775808 := by
            show Ieee.double.nearest false m i < _
            unfold Ieee.Format.nearest
            have hinf : Ieee.double.infRung = 9218868437227405312 := by decide
            split
            · decide
            · simp only [hinf, Ieee.Format.word]
              simp
              omega
          unfold Ieee.Format.read at hr'
          have hsw : Ieee.double.signWeight = 9223372036854775808 := by decide
          rw [hsw] at hr'
          have e1 : (Ieee.double.write (.number false m i) / 9223372036854775808 % 2 == 1) = false := by
            rw [Nat.div_eq_of_lt h2]; rfl
          rw [e1] at hr'
          simp only [] at hr'
          split at hr'
          · cases hr'; rfl
          · split at hr'
            · cases hr'; rfl
            · split at hr' <;> cases hr'
        subst hneg
        rw [hq']
        simp only [sgn]
        have := mul_nn (show (0 : Rat) ≤ (m' : Rat) from Rat.natCast_nonneg) (Rat.le_of_lt (p2_pos i'))
        grind
      exact this _ _ _ hq
    · rw [hs rfl] at hq
      have : fv (Ieee.double.write (.number (true ^^ false) (0 * 5734161139222659) (i + -52))) = some 0 := by
        have := write_exact (true ^^ false) 0 (-52) (by decide) (by decide) (by decide)
        show fv (Ieee.double.nearest _ _ _) = _
        unfold Ieee.Format.nearest
        simp
        decide +kernel
      rw [this] at hq
      cases hq
      decide +kernel
  have e1 := eq.1; have e2 := eq.2
  obtain ⟨n, hn, n1, n2⟩ := toInt_val hq hq0 (by
    have := Rat.mul_le_mul_of_nonneg_right h1 (Rat.le_of_lt hkp)
    have e3 : 100 * K4 ≤ 128 := by decide +kernel
    grind)
  have hn129 : n ≤ 129 := by
    have := Rat.mul_le_mul_of_nonneg_right h1 (Rat.le_of_lt hkp)
    have e3 : 100 * K4 ≤ 128 := by decide +kernel
    have h5 : (n : Rat) ≤ ((129 : Nat) : Rat) := by
      have e4 : ((129 : Nat) : Rat) = 129 := by decide +kernel
      rw [e4]; grind
    exact Rat.natCast_le_natCast.1 h5
  -- b = (b K4) Q4 up to 1e-14
  have hb1 : b * (K4 * Q4) ≤ b * (1 + 1 / 10000000000000000) := Rat.mul_le_mul_of_nonneg_left kq.1 h0
  have hb2 : b * 1 ≤ b * (K4 * Q4) := Rat.mul_le_mul_of_nonneg_left kq.2 h0
  have hQ : 0 ≤ Q4 := by grind
  have r1 := Rat.mul_le_mul_of_nonneg_right n1 hQ
  have r2 := Rat.mul_le_mul_of_nonneg_right (Rat.le_of_lt n2) hQ
  have r3 := Rat.mul_le_mul_of_nonneg_right e1 hQ
  have r4 := Rat.mul_le_mul_of_nonneg_right e2 hQ
  refine ⟨p, n, hp, hn, hn129, by grind, ?_⟩
  intro j hj
  have hd : Bd (b - (j : Rat) * Q4) (Q4 + 1 / 1000000000000) := by
    rcases Nat.mod_two_eq_zero_or_one n with h | h
    · have ej : (j : Rat) = (n : Rat) := by rw [hj, h, Nat.add_zero]
      rw [ej]
      constructor <;> grind
    · have ej : (j : Rat) = (n : Rat) + 1 := by rw [hj, h, Rat.natCast_add]; rfl
      rw [ej]
      constructor <;> grind
  have hj131 : j < 132 := by omega
  have hjr : (j : Rat) ≤ 132 := by
    have := Rat.natCast_le_natCast.2 (Nat.le_of_lt hj131)
    have e4 : ((132 : Nat) : Rat) = 132 := by decide +kernel
    grind
  have hj0 : (0 : Rat) ≤ (j : Rat) := Rat.natCast_nonneg
  have hjB : Bd (j : Rat) 132 := ⟨hjr, by grind⟩
  obtain ⟨m1, hm1, v1⟩ := mulPA j hj131
  obtain ⟨m2, hm2, v2⟩ := mulPB j hj131
  have bA : Bd ((j : Rat) * PA) 104 := (hjB.mul (show Bd PA (786 / 1000) by constructor <;> decide +kernel)).mono (by decide +kernel)
  have bB : Bd ((j : Rat) * PB) (1 / 100000) := (hjB.mul (show Bd PB (4 / 100000000) by constructor <;> decide +kernel)).mono (by decide +kernel)
  have bC : Bd ((j : Rat) * PC) (4 / 10000000000000) := (hjB.mul (show Bd PC (3 / 1000000000000000) by constructor <;> decide +kernel)).mono (by decide +kernel)
  have fA : Fx m1 ((j : Rat) * PA) 104 0 := Fx.lit v1 bA
  have fB : Fx m2 ((j : Rat) * PB) (1 / 100000) 0 := Fx.lit v2 bB
  have fj : Fx (W64 j) (j : Rat) 132 0 := Fx.lit (ofInt_val j (by omega)) hjB
  have fc : Fx 4388835458085048688 PC (3 / 1000000000000000) 0 := Fx.lit fv_PC (by constructor <;> decide +kernel)
  have es := Q4_sum
  have hjs : (j : Rat) * Q4 = (j : Rat) * PA + (j : Rat) * PB + (j : Rat) * PC := by rw [← es]; grind
  have hd1 := hd.1; have hd2 := hd.2; have b1 := bB.1; have b2 := bB.2; have c1 := bC.1; have c2 := bC.2
  obtain ⟨d1, hd1', f1⟩ := Fx.sub' 0 (7857 / 10000) (2 / 10000000000000000) hx fA (by constructor <;> grind) (by decide +kernel)
  obtain ⟨d2, hd2', f2⟩ := Fx.sub' 0 (7857 / 10000) (4 / 10000000000000000) f1 fB (by constructor <;> grind) (by decide +kernel)
  obtain ⟨m3, hm3, f3⟩ := Fx.mul (-40) (1 / 1000000000000) (1 / 10000000000000000000) fj fc (by decide +kernel)
  obtain ⟨z, hz, fz⟩ := Fx.sub' 0 (7857 / 10000) (6 / 10000000000000000) f2 f3 (by constructor <;> grind) (by decide +kernel)
  refine ⟨m1, d1, m2, d2, m3, z, hm1, hd1', hm2, hd2', hm3, hz, ?_, hd⟩
  have ev : b - (j : Rat) * PA - (j : Rat) * PB - (j : Rat) * PC = b - (j : Rat) * Q4 := by grind
  rw [ev] at fz
  exact fz.mono (by decide +kernel) (by decide +kernel)
end Go.Proofs.Qxb6609382aFmt.Fl
