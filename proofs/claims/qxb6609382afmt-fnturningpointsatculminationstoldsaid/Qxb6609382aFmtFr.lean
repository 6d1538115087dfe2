import Derived.Test.Qxb6609382aFmtFh
/-! The altitude's rate: numbers alone. -/
namespace Go.Proofs.Qxb6609382aFmt.Fl

def Wr : Rat := 7093605684409697 / 1125899906842624
theorem fv_W : fv 4618779624111797601 = some Wr := by decide +kernel
def Dl : Rat := 2135039823346013 / 18446744073709551616
theorem fv_Dl : fv 4548168583682844020 = some Dl := by decide +kernel
theorem fv_Dl2 : fv 4552672183310214516 = some (2 * Dl) := by decide +kernel
theorem fv_two : fv 4611686018427387904 = some 2 := by decide +kernel
theorem Wr_lo : 63003874867548 / 10000000000000 ≤ Wr := by decide +kernel
theorem Wr_hi : Wr ≤ 63003874867549 / 10000000000000 := by decide +kernel
theorem Dl_lo : 11574074074 / 100000000000000 ≤ Dl := by decide +kernel
theorem Dl_hi : Dl ≤ 11574074075 / 100000000000000 := by decide +kernel

/-- The hour angle's word at t. -/
theorem hour_near {t h0 : Nat} {τ η : Rat} (ht : fv t = some τ) (bt : Bd τ (13 / 10)) (hh : fv h0 = some η) (bh : Bd η 64) :
    ∃ m r q, Ieee.double.mul 4618779624111797601 t = some m ∧ Ieee.double.add h0 m = some r ∧ fv r = some q ∧ Bd (q - (η + Wr * τ)) (2 / 100000000000000) ∧ Bd q 80 := by
  obtain ⟨m, hm, fm⟩ := Fx.mul 4 10 (2 / 1000000000000000) (Fx.lit fv_W (A := 7) (by constructor <;> decide +kernel)) (Fx.lit ht bt) (by decide +kernel)
  obtain ⟨r, hr, fr⟩ := Fx.add 7 74 (2 / 100000000000000) (Fx.lit hh bh) fm (by decide +kernel)
  obtain ⟨q, hq, e, b⟩ := fr.worth
  exact ⟨m, r, q, hm, hr, hq, e, b.mono (by decide +kernel)⟩

/-- The two instants beside t, and the hour angles there. -/
theorem beside_near {t h0 : Nat} {τ η : Rat} (ht : fv t = some τ) (bt : Bd τ (12 / 10)) (hh : fv h0 = some η) (bh : Bd η 64) :
    ∃ tb ta mb ma hb ha qb qa, Ieee.double.sub t 4548168583682844020 = some tb ∧ Ieee.double.add t 4548168583682844020 = some ta ∧ Ieee.double.mul 4618779624111797601 tb = some mb ∧ Ieee.double.add h0 mb = some hb ∧ Ieee.double.mul 4618779624111797601 ta = some ma ∧ Ieee.double.add h0 ma = some ha ∧
      fv hb = some qb ∧ fv ha = some qa ∧ Bd (qb - (η + Wr * τ - Wr * Dl)) (3 / 100000000000000) ∧ Bd (qa - (η + Wr * τ + Wr * Dl)) (3 / 100000000000000) ∧ Bd qb 80 ∧ Bd qa 80 := by
  obtain ⟨tb, h1, f1⟩ := Fx.sub 1 (121 / 100) (1 / 1000000000000000) (Fx.lit ht bt) (Fx.lit fv_Dl (A := 1 / 1000) (by constructor <;> decide +kernel)) (by decide +kernel)
  obtain ⟨ta, h2, f2⟩ := Fx.add 1 (121 / 100) (1 / 1000000000000000) (Fx.lit ht bt) (Fx.lit fv_Dl (A := 1 / 1000) (by constructor <;> decide +kernel)) (by decide +kernel)
  obtain ⟨xb, v1, d1, b1⟩ := f1.worth
  obtain ⟨xa, v2, d2, b2⟩ := f2.worth
  obtain ⟨mb, hb, qb, h3, h4, v3, d3, b3⟩ := hour_near v1 (b1.mono (by decide +kernel)) hh bh
  obtain ⟨ma, ha, qa, h5, h6, v4, d4, b4⟩ := hour_near v2 (b2.mono (by decide +kernel)) hh bh
  have bw : Bd Wr 7 := by constructor <;> decide +kernel
  have k1 := bw.mul d1
  have k2 := bw.mul d2
  have p1 := k1.1; have p2 := k1.2; have p3 := k2.1; have p4 := k2.2
  have p5 := d3.1; have p6 := d3.2; have p7 := d4.1; have p8 := d4.2
  refine ⟨tb, ta, mb, ma, hb, ha, qb, qa, h1, h2, h3, h4, h5, h6, v3, v4, ⟨by grind, by grind⟩, ⟨by grind, by grind⟩, b3, b4⟩

theorem int_zero {m : Int} (h : Bd ((m : Rat) * TP) 4) : m = 0 := by
  have t := TP_lo
  have h1 := h.1; have h2 := h.2
  rcases Int.lt_trichotomy m 0 with h3 | h3 | h3
  · have : (m : Rat) ≤ ((-1 : Int) : Rat) := Rat.intCast_le_intCast.mpr (by omega)
    have h4 := mul_nn (show 0 ≤ -1 - (m : Rat) by grind) (show 0 ≤ TP by grind)
    exfalso; grind
  · exact h3
  · have : ((1 : Int) : Rat) ≤ (m : Rat) := Rat.intCast_le_intCast.mpr (by omega)
    have h4 := mul_nn (show 0 ≤ (m : Rat) - 1 by grind) (show 0 ≤ TP by grind)
    exfalso; grind

/-- What the two excesses share. -/
theorem shared_near {sl s cl c : Nat} {σ κ v γ : Rat} (h1 : fv sl = some σ) (b1 : Bd σ 1) (h2 : Fx s v 2 (1 / 100000000000000)) (h3 : fv cl = some κ) (b3 : Bd κ 1) (h4 : fv c = some γ) (b4 : Bd γ (12 / 10)) :
    ∃ m1 m2 P A, Ieee.double.mul sl s = some m1 ∧ Ieee.double.mul cl c = some m2 ∧ fv m1 = some P ∧ fv m2 = some A ∧ Bd P (21 / 10) ∧ Bd (A - κ * γ) (3 / 10000000000000000) := by
  obtain ⟨m1, e1, f1⟩ := Fx.mul 2 2 (2 / 100000000000000) (Fx.lit h1 b1) h2 (by decide +kernel)
  obtain ⟨m2, e2, f2⟩ := Fx.mul 1 (12 / 10) (3 / 10000000000000000) (Fx.lit h3 b3) (Fx.lit h4 b4) (by decide +kernel)
  obtain ⟨P, v1, _, bP⟩ := f1.worth
  obtain ⟨A, v2, dA, _⟩ := f2.worth
  exact ⟨m1, m2, P, A, e1, e2, v1, v2, bP.mono (by decide +kernel), dA⟩

/-- One excess. -/
theorem excess_near {m1 m2 sa ch : Nat} {P A α χ : Rat} (h1 : fv m1 = some P) (b1 : Bd P (21 / 10)) (h2 : fv m2 = some A) (b2 : Bd A (13 / 10)) (h3 : fv sa = some α) (b3 : Bd α 1) (h4 : fv ch = some χ) (b4 : Bd χ (12 / 10)) :
    ∃ m3 a1 E q, Ieee.double.mul m2 ch = some m3 ∧ Ieee.double.add m1 m3 = some a1 ∧ Ieee.double.sub a1 sa = some E ∧ fv E = some q ∧ Bd (q - (P + A * χ - α)) (2 / 1000000000000000) ∧ Bd q 5 := by
  obtain ⟨m3, e1, f1⟩ := Fx.mul 1 (16 / 10) (3 / 10000000000000000) (Fx.lit h2 b2) (Fx.lit h4 b4) (by decide +kernel)
  obtain ⟨a1, e2, f2⟩ := Fx.add 2 (37 / 10) (8 / 10000000000000000) (Fx.lit h1 b1) f1 (by decide +kernel)
  obtain ⟨E, e3, f3⟩ := Fx.sub 3 (47 / 10) (2 / 1000000000000000) f2 (Fx.lit h3 b3) (by decide +kernel)
  obtain ⟨q, v, d, b⟩ := f3.worth
  exact ⟨m3, a1, E, q, e1, e2, e3, v, d, b.mono (by decide +kernel)⟩

/-- The rate's word out of the two excesses. -/
theorem quot_near {Ea Eb : Nat} {qa qb x : Rat} (h1 : fv Ea = some qa) (h2 : fv Eb = some qb) (b1 : Bd qa 5) (b2 : Bd qb 5) (hx : Bd (qa - qb - x) (4 / 1000000000000000)) (hx0 : Bd x (1 / 100)) :
    ∃ D R q, Ieee.double.sub Ea Eb = some D ∧ Ieee.double.div D 4552672183310214516 = some R ∧ fv R = some q ∧ Bd (q * (2 * Dl) - x) (5 / 1000000000000000) ∧ Bd q 50 := by
  have g1 := hx.1; have g2 := hx.2; have g3 := hx0.1; have g4 := hx0.2
  obtain ⟨D, e1, f1⟩ := Fx.sub' (-6) (11 / 1000) (1 / 100000000000000000) (Fx.lit h1 b1) (Fx.lit h2 b2) ⟨by grind, by grind⟩ (by decide +kernel)
  obtain ⟨R, e2, f2⟩ := Fx.divc 6 48 (1 / 10000000000000) f1 fv_Dl2 (by decide +kernel)
  obtain ⟨q, v, d, b⟩ := f2.worth
  refine ⟨D, R, q, e1, e2, v, ?_, b.mono (by decide +kernel)⟩
  have e : (qa - qb) / (2 * Dl) * (2 * Dl) = qa - qb := Rat.div_mul_cancel (by decide +kernel)
  have k := d.mul (show Bd (2 * Dl) (232 / 1000000) by constructor <;> decide +kernel)
  have k1 := k.1; have k2 := k.2
  rw [show (q - (qa - qb) / (2 * Dl)) * (2 * Dl) = q * (2 * Dl) - (qa - qb) / (2 * Dl) * (2 * Dl) by grind, e] at k1 k2
  exact ⟨by grind, by grind⟩

/-- Half the sum of the two cosines, times -cos(latitude)·cos(declination), times the square of the hour angle's rate. -/
theorem second_near {cd cb ca cl : Nat} {γ χb χa κ δ : Rat} (h1 : fv cd = some γ) (b1 : Bd γ (12 / 10)) (h2 : fv cb = some χb) (b2 : Bd χb (12 / 10)) (h3 : fv ca = some χa) (b3 : Bd χa (12 / 10)) (h4 : fv cl = some κ) (b4 : Bd κ 1) (b5 : Bd (δ - 2 * Wr * Dl) (8 / 100000000000000)) :
    ∃ y1 y2 y3 y4 x1, Ieee.double.mul cd cb = some y1 ∧ Ieee.double.mul cd ca = some y2 ∧ Ieee.double.add y1 y2 = some y3 ∧ Ieee.double.div y3 4611686018427387904 = some y4 ∧ Ieee.double.mul (Op.negFloat .f64 cl) y4 = some x1 ∧
      ∀ (r : Nat), (∃ (q : Rat) (m : Int), fv r = some q ∧ Bd q (TP / 2 + 1 / 100000000000000) ∧ Bd (q - (δ - (m : Rat) * TP)) (3 / 100000000000000)) →
        ∃ hr x2 x3 q3, Ieee.double.div r 4552672183310214516 = some hr ∧ Ieee.double.mul x1 hr = some x2 ∧ Ieee.double.mul x2 hr = some x3 ∧ fv x3 = some q3 ∧ Bd (q3 - -(κ * ((γ * χb + γ * χa) / 2)) * Wr * Wr) (2 / 10000000) := by
  obtain ⟨y1, e1, f1⟩ := Fx.mul 1 (15 / 10) (1 / 1000000000000000) (Fx.lit h1 b1) (Fx.lit h2 b2) (by decide +kernel)
  obtain ⟨y2, e2, f2⟩ := Fx.mul 1 (15 / 10) (1 / 1000000000000000) (Fx.lit h1 b1) (Fx.lit h3 b3) (by decide +kernel)
  obtain ⟨y3, e3, f3⟩ := Fx.add 2 3 (3 / 1000000000000000) f1 f2 (by decide +kernel)
  obtain ⟨y4, e4, f4⟩ := Fx.divc 1 (16 / 10) (4 / 1000000000000000) f3 fv_two (by decide +kernel)
  obtain ⟨x1, e5, f5⟩ := Fx.mul 1 (16 / 10) (5 / 1000000000000000) (Fx.lit h4 b4).neg f4 (by decide +kernel)
  refine ⟨y1, y2, y3, y4, x1, e1, e2, e3, e4, e5, ?_⟩
  rintro r ⟨q, m, hq, bq, dq⟩
  have t1 := TP_lo; have t2 := TP_hi
  have w1 := Wr_lo; have w2 := Wr_hi
  have dl : 2 * Wr * Dl ≤ 2 / 1000 ∧ 0 ≤ 2 * Wr * Dl := by decide +kernel
  have c1 := b5.1; have c2 := b5.2; have c3 := bq.1; have c4 := bq.2; have c5 := dq.1; have c6 := dq.2; have c7 := dl.1; have c8 := dl.2
  have hm : m = 0 := int_zero ⟨by grind, by grind⟩
  subst hm
  have c9 : ((0 : Int) : Rat) * TP = 0 := by grind
  rw [c9] at c5 c6
  have fq : Fx r (2 * Wr * Dl) (2 / 1000) (2 / 10000000000000) := ⟨q, hq, ⟨by grind, by grind⟩, ⟨by grind, by grind⟩⟩
  obtain ⟨hr, e6, f6⟩ := Fx.divc 4 9 (1 / 1000000000) fq fv_Dl2 (by decide +kernel)
  rw [show 2 * Wr * Dl / (2 * Dl) = Wr by decide +kernel] at f6
  have f6' : Fx hr Wr 7 (1 / 1000000000) := by
    obtain ⟨z, hz, z1, _⟩ := f6
    exact ⟨z, hz, z1, by constructor <;> decide +kernel⟩
  obtain ⟨x2, e7, f7⟩ := Fx.mul 4 12 (2 / 1000000000) f5 f6' (by decide +kernel)
  obtain ⟨x3, e8, f8⟩ := Fx.mul 7 90 (1 / 10000000) f7 f6' (by decide +kernel)
  obtain ⟨q3, v3, d3, _⟩ := f8
  exact ⟨hr, x2, x3, q3, e6, e7, e8, v3, by rw [show -(κ * ((γ * χb + γ * χa) / 2)) * Wr * Wr = -κ * ((γ * χb + γ * χa) / 2) * Wr * Wr by grind]; exact d3.mono (by decide +kernel)⟩
end Go.Proofs.Qxb6609382aFmt.Fl
