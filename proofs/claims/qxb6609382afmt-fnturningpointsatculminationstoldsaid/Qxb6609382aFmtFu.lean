import Derived.Test.Qxb6609382aFmtFt
/-! A culmination's numbers. -/
namespace Go.Proofs.Qxb6609382aFmt.Fl

/-- The hour angle's word at t, a wider span. -/
theorem hour_wide {t h0 : Nat} {τ η : Rat} (ht : fv t = some τ) (bt : Bd τ (16 / 10)) (hh : fv h0 = some η) (bh : Bd η 64) :
    ∃ m r q, Ieee.double.mul 4618779624111797601 t = some m ∧ Ieee.double.add h0 m = some r ∧ fv r = some q ∧ Bd (q - (η + Wr * τ)) (2 / 100000000000000) ∧ Bd q 80 := by
  obtain ⟨m, hm, fm⟩ := Fx.mul 4 12 (2 / 1000000000000000) (Fx.lit fv_W (A := 7) (by constructor <;> decide +kernel)) (Fx.lit ht bt) (by decide +kernel)
  obtain ⟨r, hr, fr⟩ := Fx.add 7 76 (2 / 100000000000000) (Fx.lit hh bh) fm (by decide +kernel)
  obtain ⟨q, hq, e, b⟩ := fr.worth
  exact ⟨m, r, q, hm, hr, hq, e, b.mono (by decide +kernel)⟩

theorem int_zero' {m : Int} (h : Bd ((m : Rat) * TP) (59 / 10)) : m = 0 := by
  have t := TP_lo
  have h1 := h.1; have h2 := h.2
  rcases Int.lt_trichotomy m 0 with h3 | h3 | h3
  · have : (m : Rat) ≤ ((-1 : Int) : Rat) := Rat.intCast_le_intCast.mpr (by omega)
    have h4 := mul_nn (show 0 ≤ -1 - (m : Rat) by grind) (show 0 ≤ TP by grind)
    exfalso; grind
  · exact h3
  · have : ((1 : Int) : Rat) ≤ (m : Rat) := Rat.intCast_le_intCast.mpr (by omega)
    have h4 := mul_nn (show 0 ≤ (m : Rat) - 1 by grind) (show 0 ≤ TP by grind)
    exfalso; grind

theorem fv_nought : fv 0 = some 0 := by decide +kernel
theorem fv_half_turn : fv 4614256656552045848 = some (TP / 2) := by decide +kernel

/-- One correction: the hour angle at t is d short of the k-th multiple of pi; tg is the target's word. -/
theorem culm_near {t h0 tg : Nat} {τ η d T : Rat} {j : Int} (ht : fv t = some τ) (bt : Bd τ (16 / 10)) (hh : fv h0 = some η) (bh : Bd η 64) (bd : Bd d 2) (hT : fv tg = some T) (c : Int) (hc : (c = 0 ∧ T = 0) ∨ (c = 1 ∧ T = TP / 2)) (hk : η + Wr * τ = (2 * (j : Rat) + (c : Rat)) * (4 * Q4) - d) :
    ∃ m r q x qx, Ieee.double.mul 4618779624111797601 t = some m ∧ Ieee.double.add h0 m = some r ∧ fv r = some q ∧ Bd (q - (η + Wr * τ)) (2 / 100000000000000) ∧ Ieee.double.sub tg r = some x ∧ fv x = some qx ∧ Bd qx 100 ∧
      ∀ (r1 : Nat), (∃ (q : Rat) (m : Int), fv r1 = some q ∧ Bd q (TP / 2 + 1 / 100000000000000) ∧ Bd (q - (qx - (m : Rat) * TP)) (3 / 100000000000000)) →
        ∃ cc t2 qc τ2, Ieee.double.div r1 4618779624111797601 = some cc ∧ fv cc = some qc ∧ Ieee.double.add t cc = some t2 ∧ fv t2 = some τ2 ∧ Bd (Wr * qc - d) (1 / 10000000000000) ∧ Bd (τ2 - τ - qc) (5 / 10000000000000000) ∧ Bd (η + Wr * τ2 - (2 * (j : Rat) + (c : Rat)) * (4 * Q4)) (2 / 10000000000000) := by
  obtain ⟨m, r, q, e1, e2, e3, e4, e5⟩ := hour_wide ht bt hh bh
  have t1 := TP_lo; have t2 := TP_hi
  have bT : Bd T 4 := by
    rcases hc with ⟨_, rfl⟩ | ⟨_, rfl⟩ <;> exact ⟨by grind, by grind⟩
  obtain ⟨x, f1, f2⟩ := Fx.sub 7 84 (2 / 100000000000000) (Fx.lit hT bT) (Fx.lit e3 e5) (by decide +kernel)
  obtain ⟨qx, f3, f4, f5⟩ := f2.worth
  refine ⟨m, r, q, x, qx, e1, e2, e3, e4, f1, f3, f5.mono (by decide +kernel), ?_⟩
  rintro r1 ⟨p, mm, g1, g2, g3⟩
  have h1 := g2.1; have h2 := g2.2; have h3 := g3.1; have h4 := g3.2
  have e41 := e4.1; have e42 := e4.2; have f41 := f4.1; have f42 := f4.2
  have b1 := bd.1; have b2 := bd.2; have b3 := bh.1; have b4 := bh.2; have b5 := bt.1; have b6 := bt.2
  have w1 := Wr_lo; have w2 := Wr_hi
  have tq : TP - 8 * Q4 ≤ 3 / 10000000000000000 ∧ -(TP - 8 * Q4) ≤ 3 / 10000000000000000 := by decide +kernel
  have q41 := Q4_lo; have q42 := Q4_hi
  -- j is small
  have bw := (show Bd Wr 7 by constructor <;> decide +kernel).mul bt
  have bw1 := bw.1; have bw2 := bw.2
  have bj : Bd (j : Rat) 14 := by
    simp only [Q4] at hk
    rcases hc with ⟨rfl, rfl⟩ | ⟨rfl, rfl⟩ <;> exact ⟨by grind, by grind⟩
  have bjt := bj.mul (show Bd (TP - 8 * Q4) (3 / 10000000000000000) from tq)
  have bj1 := bjt.1; have bj2 := bjt.2
  have dif : Bd (p - d + ((j + mm : Int) : Rat) * TP) (9 / 100000000000000) := by
    rw [Rat.intCast_add]
    rcases hc with ⟨rfl, rfl⟩ | ⟨rfl, rfl⟩
    · exact ⟨by grind, by grind⟩
    · have tq1 := tq.1; have tq2 := tq.2
      exact ⟨by grind, by grind⟩
  have d1 := dif.1; have d2 := dif.2
  have hz : j + mm = 0 := int_zero' ⟨by grind, by grind⟩
  rw [hz] at d1 d2
  have z0 : ((0 : Int) : Rat) * TP = 0 := by grind
  rw [z0] at d1 d2
  obtain ⟨cc, i1, i2⟩ := Fx.divc 0 (6 / 10) (5 / 10000000000000000) (Fx.lit g1 (A := 32 / 10) ⟨by grind, by grind⟩) fv_W (by decide +kernel)
  obtain ⟨qc, i3, i4, i5⟩ := i2.worth
  have e : p / Wr * Wr = p := Rat.div_mul_cancel (by decide +kernel)
  have i6 := i4.mul (show Bd Wr 7 by constructor <;> decide +kernel)
  have i7 := i6.1; have i8 := i6.2
  rw [show (qc - p / Wr) * Wr = Wr * qc - p / Wr * Wr by grind, e] at i7 i8
  obtain ⟨t2', k1, k2⟩ := Fx.add 2 (23 / 10) (5 / 10000000000000000) (Fx.lit ht bt) (Fx.lit i3 i5) (by decide +kernel)
  obtain ⟨τ2, k3, k4, _⟩ := k2
  have k5 := k4.1; have k6 := k4.2
  have k7 := (show Bd (τ2 - (τ + qc)) (5 / 10000000000000000) from k4).mul (show Bd Wr 7 by constructor <;> decide +kernel)
  have k8 := k7.1; have k9 := k7.2
  exact ⟨cc, t2', qc, τ2, i1, i3, k1, k3, ⟨by grind, by grind⟩, ⟨by grind, by grind⟩, ⟨by grind, by grind⟩⟩
end Go.Proofs.Qxb6609382aFmt.Fl
