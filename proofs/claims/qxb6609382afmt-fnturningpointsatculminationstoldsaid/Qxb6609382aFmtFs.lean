import Derived.Test.Qxb6609382aFmtFr
namespace Go.Proofs.Qxb6609382aFmt.Fl

theorem WD_lo : 72921151 / 100000000000 ≤ Wr * Dl := by decide +kernel
theorem WD_hi : Wr * Dl ≤ 72921152 / 100000000000 := by decide +kernel

/-- The cosine's fall over two steps to the right of a multiple of pi. -/
theorem fall_right {θ θa θb ga gb : Rat} (ha : Bd (θa - (θ + Wr * Dl)) (3 / 100000000000000)) (hb : Bd (θb - (θ - Wr * Dl)) (3 / 100000000000000)) (Ga : G θa ga) (Gb : G θb gb) (h0 : 0 ≤ θa + θb) :
    gb - ga ≤ 146 / 100000 * (2 * θ + 1 / 10000000000000) + 2 / 100000000000 ∧ -(2 / 100000000000) ≤ gb - ga ∧
    (θ ≤ 69 / 100 → 0 ≤ gb - ga ∧ gb - ga ≤ 146 / 100000 * (2 * θ + 1 / 10000000000000)) ∧
    (θ ≤ 69 / 100 → 1195 / 1000000 * θ - 1 / 10000000000000000 ≤ gb - ga) ∧
    (θ ≤ 79 / 100 → 1195 / 1000000 * θ - 1 / 10000000000000000 - 2 / 100000000000 ≤ gb - ga) ∧
    (583 / 1000000 * θ - 1 / 10000000000000000 - 2 / 100000000000 ≤ gb - ga) := by
  have q1 := Q4_lo; have q2 := Q4_hi
  have w1 := WD_lo; have w2 := WD_hi
  have a1 := ha.1; have a2 := ha.2; have b1 := hb.1; have b2 := hb.2
  have e : θa * θa - θb * θb = (θa - θb) * (θa + θb) := by grind
  have p1 := mul_nn (show 0 ≤ θa - θb - 14584 / 10000000 by grind) h0
  have p2 := mul_nn (show 0 ≤ 146 / 100000 - (θa - θb) by grind) h0
  have hs : θb * θb ≤ θa * θa := by grind
  obtain ⟨d1, d2, d3⟩ := G_diff Gb Ga hs
  have hθ0 : -(1 / 10000000000000) ≤ θ := by grind
  refine ⟨by grind, by grind, fun h => ?_, fun h => ?_, fun h => ?_, by grind⟩
  · have hb7 : θa * θa ≤ 49 / 100 := by
      have := sq_le (u := θa) (v := 7 / 10) (by grind) (by grind)
      grind
    obtain ⟨c1, c2⟩ := G_diff_small Gb Ga hs hb7
    exact ⟨by grind, by grind⟩
  · have hb7 : θa * θa ≤ 49 / 100 := by
      have := sq_le (u := θa) (v := 7 / 10) (by grind) (by grind)
      grind
    obtain ⟨c1, c2⟩ := G_diff_small Gb Ga hs hb7
    grind
  · have hb7 : θa * θa ≤ 16 / 25 := by
      have := sq_le (u := θa) (v := 8 / 10) (by grind) (by grind)
      grind
    have := d2 hb7
    grind

/-- The same on the left, by the mirror. -/
theorem fall_left {θ θa θb ga gb : Rat} (ha : Bd (θa - (θ + Wr * Dl)) (3 / 100000000000000)) (hb : Bd (θb - (θ - Wr * Dl)) (3 / 100000000000000)) (Ga : G θa ga) (Gb : G θb gb) (h0 : θa + θb ≤ 0) :
    ga - gb ≤ 146 / 100000 * (2 * -θ + 1 / 10000000000000) + 2 / 100000000000 ∧ -(2 / 100000000000) ≤ ga - gb ∧
    (-θ ≤ 69 / 100 → 0 ≤ ga - gb ∧ ga - gb ≤ 146 / 100000 * (2 * -θ + 1 / 10000000000000)) ∧
    (-θ ≤ 69 / 100 → 1195 / 1000000 * -θ - 1 / 10000000000000000 ≤ ga - gb) ∧
    (-θ ≤ 79 / 100 → 1195 / 1000000 * -θ - 1 / 10000000000000000 - 2 / 100000000000 ≤ ga - gb) ∧
    (583 / 1000000 * -θ - 1 / 10000000000000000 - 2 / 100000000000 ≤ ga - gb) := by
  have a1 := ha.1; have a2 := ha.2; have b1 := hb.1; have b2 := hb.2
  exact fall_right (θ := -θ) (θa := -θb) (θb := -θa) (ga := gb) (gb := ga) ⟨by grind, by grind⟩ ⟨by grind, by grind⟩ (G_neg Gb) (G_neg Ga) (by grind)

theorem le_quot {A z a e : Rat} (ha : 0 < a) (hA : a ≤ A) (he : 0 ≤ e) (h : A * z ≤ a * e) : z ≤ e := by
  rcases Rat.le_total (a := z) (b := e) with h1 | h1
  · exact h1
  · have k := mul_nn (show 0 ≤ A - a by grind) (show 0 ≤ z by grind)
    exact Rat.le_of_mul_le_mul_left (c := a) (by grind) ha

/-- The fall over two steps, whichever the side. -/
theorem fall_any {θ θa θb ga gb : Rat} (ha : Bd (θa - (θ + Wr * Dl)) (3 / 100000000000000)) (hb : Bd (θb - (θ - Wr * Dl)) (3 / 100000000000000)) (Ga : G θa ga) (Gb : G θb gb) (hθ : Bd θ (2 * Q4 + 1 / 1000)) :
    Bd (ga - gb) (5 / 1000) ∧ (Bd θ (1 / 100000000000) → Bd (ga - gb) (3 / 100000000000000)) ∧
    (6 / 100000000 ≤ θ → θ ≤ 79 / 100 → 1194 / 1000000 * θ ≤ gb - ga) ∧ (6 / 100000000 ≤ -θ → -θ ≤ 79 / 100 → 1194 / 1000000 * -θ ≤ ga - gb) ∧
    (6 / 1000 ≤ θ → 3 / 1000000 ≤ gb - ga) ∧ (6 / 1000 ≤ -θ → 3 / 1000000 ≤ ga - gb) ∧ (Bd θ (79 / 100) → 1 / 2 ≤ ga ∧ 1 / 2 ≤ gb) := by
  have q1 := Q4_lo; have q2 := Q4_hi
  have w1 := WD_lo; have w2 := WD_hi
  have a1 := ha.1; have a2 := ha.2; have b1 := hb.1; have b2 := hb.2
  have t1 := hθ.1; have t2 := hθ.2
  have big : Bd θ (79 / 100) → 1 / 2 ≤ ga ∧ 1 / 2 ≤ gb := fun h => by
    have h1 := h.1; have h2 := h.2
    have k1 := mul_nn (show 0 ≤ 8 / 10 - θa by grind) (show 0 ≤ 8 / 10 + θa by grind)
    have k2 := mul_nn (show 0 ≤ 8 / 10 - θb by grind) (show 0 ≤ 8 / 10 + θb by grind)
    exact ⟨(G_bd Ga).2.1 (by grind), (G_bd Gb).2.1 (by grind)⟩
  rcases Rat.le_total (a := 0) (b := θa + θb) with h0 | h0
  · obtain ⟨c1, c2, c3, c4, c5, c6⟩ := fall_right ha hb Ga Gb h0
    refine ⟨⟨by grind, by grind⟩, fun h => ?_, fun h1 h2 => ?_, fun h1 h2 => ?_, fun h => ?_, fun h => ?_, big⟩
    · have h1 := h.1; have h2 := h.2
      obtain ⟨c7, c8⟩ := c3 (by grind)
      exact ⟨by grind, by grind⟩
    · rcases Rat.le_total (a := θ) (b := 69 / 100) with h3 | h3
      · have := c4 h3; grind
      · have := c5 h2; grind
    · exfalso; grind
    · grind
    · exfalso; grind
  · obtain ⟨c1, c2, c3, c4, c5, c6⟩ := fall_left ha hb Ga Gb h0
    refine ⟨⟨by grind, by grind⟩, fun h => ?_, fun h1 h2 => ?_, fun h1 h2 => ?_, fun h => ?_, fun h => ?_, big⟩
    · have h1 := h.1; have h2 := h.2
      obtain ⟨c7, c8⟩ := c3 (by grind)
      exact ⟨by grind, by grind⟩
    · exfalso; grind
    · rcases Rat.le_total (a := -θ) (b := 69 / 100) with h3 | h3
      · have := c4 h3; grind
      · have := c5 h2; grind
    · exfalso; grind
    · grind

/-- What the rate and its rate say at the angle θ beside the k-th multiple of pi. -/
def RateOK (k : Int) (θ qv qr : Rat) : Prop := ∃ A ν ρ, 2 / 1000 ≤ A ∧ A ≤ 13 / 10 ∧ qv = sg k * (A * ν) ∧ qr = -(sg k * (A * ρ)) ∧ (Bd θ (1 / 100000000000) → Bd ν (3 / 100000000)) ∧
  (6 / 100000000 ≤ θ → θ ≤ 79 / 100 → 3 / 4 * Wr * θ ≤ -ν) ∧ (6 / 100000000 ≤ -θ → -θ ≤ 79 / 100 → 3 / 4 * Wr * -θ ≤ ν) ∧ (6 / 1000 ≤ θ → ν ≤ -(1 / 100)) ∧ (6 / 1000 ≤ -θ → 1 / 100 ≤ ν) ∧ (Bd θ (79 / 100) → 18 ≤ ρ ∧ ρ ≤ 44) ∧ Bd ν 25

theorem sg_two (k : Int) : sg k = 1 ∨ sg k = -1 := by unfold sg; split <;> simp

theorem val_err {s A ga gb χa χb qv ν : Rat} (hs : s = 1 ∨ s = -1) (A1 : 2 / 1000 ≤ A) (ca : Bd (χa - s * ga) (1 / 100000000000000)) (cb : Bd (χb - s * gb) (1 / 100000000000000))
    (hv : Bd (qv * (2 * Dl) - A * (χa - χb)) (5 / 1000000000000000)) (eν : A * ν = s * qv) : Bd (ν * (2 * Dl) - (ga - gb)) (26 / 10000000000000) := by
  have ca1 := ca.1; have ca2 := ca.2; have cb1 := cb.1; have cb2 := cb.2
  have hv1 := hv.1; have hv2 := hv.2
  clear ca cb hv
  have hA : 0 ≤ A := by grind
  have k1 := mul_nn hA (show 0 ≤ 1 / 100000000000000 - (χa - s * ga) by grind)
  have k2 := mul_nn hA (show 0 ≤ 1 / 100000000000000 + (χa - s * ga) by grind)
  have k3 := mul_nn hA (show 0 ≤ 1 / 100000000000000 - (χb - s * gb) by grind)
  have k4 := mul_nn hA (show 0 ≤ 1 / 100000000000000 + (χb - s * gb) by grind)
  have e1 : A * ν * (2 * Dl) = s * qv * (2 * Dl) := by rw [eν]
  clear ca1 ca2 cb1 cb2 eν
  constructor
  · have h : A * (ν * (2 * Dl) - (ga - gb) - 2 / 100000000000000) ≤ 2 / 1000 * (25 / 10000000000000) := by
      rcases hs with rfl | rfl <;> grind
    have := le_quot (by decide +kernel) A1 (by decide +kernel) h
    grind
  · have h : A * (-(ν * (2 * Dl) - (ga - gb)) - 2 / 100000000000000) ≤ 2 / 1000 * (25 / 10000000000000) := by
      rcases hs with rfl | rfl <;> grind
    have := le_quot (by decide +kernel) A1 (by decide +kernel) h
    grind

theorem rho_range {s A ga gb χa χb qr ρ κ γ : Rat} (hs : s = 1 ∨ s = -1) (A1 : 2 / 1000 ≤ A) (ca : Bd (χa - s * ga) (1 / 100000000000000)) (cb : Bd (χb - s * gb) (1 / 100000000000000))
    (hr : Bd (qr - -(κ * ((γ * χb + γ * χa) / 2)) * Wr * Wr) (2 / 10000000)) (hM : Bd (κ * γ - A) (5 / 100000000000)) (eρ : A * ρ = -(s * qr)) (g1 : 1 / 2 ≤ ga) (g2 : 1 / 2 ≤ gb) (g3 : ga ≤ 11 / 10) (g4 : gb ≤ 11 / 10) : 18 ≤ ρ ∧ ρ ≤ 44 := by
  have ca1 := ca.1; have ca2 := ca.2; have cb1 := cb.1; have cb2 := cb.2
  have hr1 := hr.1; have hr2 := hr.2; have hM1 := hM.1; have hM2 := hM.2
  have hh : ∃ h, h = s * ((χb + χa) / 2) ∧ 4999 / 10000 ≤ h ∧ h ≤ 11001 / 10000 := by
    refine ⟨_, rfl, ?_, ?_⟩ <;> rcases hs with rfl | rfl <;> grind
  obtain ⟨h, eh, h1, h2⟩ := hh
  have M0 : 0 ≤ κ * γ := by grind
  have ww : 3969 / 100 ≤ Wr * Wr ∧ Wr * Wr ≤ 397 / 10 := by decide +kernel
  have e2 : -(s * qr) = κ * γ * h * (Wr * Wr) - s * (qr - -(κ * ((γ * χb + γ * χa) / 2)) * Wr * Wr) := by rw [eh]; grind
  have m1 := mul_nn M0 (show 0 ≤ h - 4999 / 10000 by grind)
  have m2 := mul_nn M0 (show 0 ≤ 11001 / 10000 - h by grind)
  have hn := mul_nn M0 (show 0 ≤ h by grind)
  have m3 := mul_nn hn (show 0 ≤ Wr * Wr - 3969 / 100 by grind)
  have m4 := mul_nn hn (show 0 ≤ 397 / 10 - Wr * Wr by grind)
  have e3 : Bd (s * (qr - -(κ * ((γ * χb + γ * χa) / 2)) * Wr * Wr)) (2 / 10000000) := by
    rcases hs with rfl | rfl
    · exact ⟨by grind, by grind⟩
    · exact ⟨by grind, by grind⟩
  have e31 := e3.1; have e32 := e3.2
  rw [e2] at eρ
  generalize s * (qr - -(κ * ((γ * χb + γ * χa) / 2)) * Wr * Wr) = z at *
  generalize Wr * Wr = w2 at *
  generalize κ * γ = M at *
  have lo : 18 * A ≤ A * ρ := by grind
  have hi : A * ρ ≤ 44 * A := by grind
  have A0 : 0 < A := by grind
  exact ⟨Rat.le_of_mul_le_mul_left (c := A) (by grind) A0, Rat.le_of_mul_le_mul_left (c := A) (by grind) A0⟩

theorem rate_ok {k : Int} {θ θa θb ga gb A χa χb qv qr κ γ : Rat} (ha : Bd (θa - (θ + Wr * Dl)) (3 / 100000000000000)) (hb : Bd (θb - (θ - Wr * Dl)) (3 / 100000000000000)) (Ga : G θa ga) (Gb : G θb gb) (hθ : Bd θ (2 * Q4 + 1 / 1000))
    (A1 : 2 / 1000 ≤ A) (A2 : A ≤ 13 / 10) (ca : Bd (χa - sg k * ga) (1 / 100000000000000)) (cb : Bd (χb - sg k * gb) (1 / 100000000000000))
    (hv : Bd (qv * (2 * Dl) - A * (χa - χb)) (5 / 1000000000000000)) (hr : Bd (qr - -(κ * ((γ * χb + γ * χa) / 2)) * Wr * Wr) (2 / 10000000)) (hM : Bd (κ * γ - A) (5 / 100000000000)) : RateOK k θ qv qr := by
  obtain ⟨f1, f2, f3, f4, f5, f6, f7⟩ := fall_any ha hb Ga Gb hθ
  have gA1 := (G_bd Ga).1.1
  have gB1 := (G_bd Gb).1.1
  have hA0 : A ≠ 0 := by grind
  have ss := sg_sq k
  obtain ⟨ν, hν⟩ : ∃ ν, ν = sg k * (qv / A) := ⟨_, rfl⟩
  obtain ⟨ρ, hρ⟩ : ∃ ρ, ρ = -(sg k * (qr / A)) := ⟨_, rfl⟩
  have eν : A * ν = sg k * qv := by rw [hν, show A * (sg k * (qv / A)) = sg k * (qv / A * A) by grind, Rat.div_mul_cancel hA0]
  have eρ : A * ρ = -(sg k * qr) := by rw [hρ, show A * -(sg k * (qr / A)) = -(sg k * (qr / A * A)) by grind, Rat.div_mul_cancel hA0]
  have err := val_err (sg_two k) A1 ca cb hv eν
  have rr := fun g1 g2 => rho_range (sg_two k) A1 ca cb hr hM eρ g1 g2 gA1 gB1
  have er1 := err.1; have er2 := err.2
  have n1 := f1.1; have n2 := f1.2
  simp only [Dl] at er1 er2
  clear err hν hρ ha hb Ga Gb ca cb hv hr hM
  refine ⟨A, ν, ρ, A1, A2, by rw [eν]; grind, by rw [eρ]; grind, fun h => ?_, fun h1 h2 => ?_, fun h1 h2 => ?_, fun h => ?_, fun h => ?_, fun h => ?_, ⟨by grind, by grind⟩⟩
  · have h1 := (f2 h).1; have h2 := (f2 h).2
    exact ⟨by grind, by grind⟩
  · have := f3 h1 h2
    simp only [Wr]; grind
  · have := f4 h1 h2
    simp only [Wr]; grind
  · have := f5 h; grind
  · have := f6 h; grind
  · obtain ⟨g1, g2⟩ := f7 h
    exact rr g1 g2
end Go.Proofs.Qxb6609382aFmt.Fl
