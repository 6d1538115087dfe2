import Derived.Test.Qxb6609382aFmtFc
/-! The cosine about a multiple of pi, pieced together of the two polynomials: how it falls. -/
namespace Go.Proofs.Qxb6609382aFmt.Fl

def G0 (w g : Rat) : Prop :=
  (0 ≤ w ∧ w ≤ Q4 + 1 / 1000000000000 ∧ g = cosP w) ∨ (Q4 - 1 / 1000000000000 ≤ w ∧ w ≤ 2 * Q4 + 1 / 50 ∧ g = sinP (2 * Q4 - w))
def G (θ g : Rat) : Prop := (0 ≤ θ ∧ G0 θ g) ∨ (θ ≤ 0 ∧ G0 (-θ) g)

theorem sq_le {u v : Rat} (hu : 0 ≤ u) (h : u ≤ v) : u * u ≤ v * v := by
  have h1 := Rat.mul_le_mul_of_nonneg_left h hu
  have h2 := Rat.mul_le_mul_of_nonneg_right h (show 0 ≤ v by grind)
  grind
theorem le_of_sq {u v : Rat} (hv : 0 ≤ v) (h : u * u ≤ v * v) : u ≤ v := by
  rcases Rat.le_total (a := u) (b := v) with h' | h'
  · exact h'
  · rcases Rat.le_iff_lt_or_eq.1 h' with h2 | h2
    · exfalso
      have h3 := Rat.mul_lt_mul_of_pos_left h2 (show 0 < u by grind)
      have h4 := Rat.mul_le_mul_of_nonneg_right (show v ≤ u by grind) hv
      grind
    · grind
theorem sq_nn (u : Rat) : 0 ≤ u * u := by
  rcases Rat.le_total (a := 0) (b := u) with h | h
  · exact mul_nn h h
  · have := mul_nn (show 0 ≤ -u by grind) (show 0 ≤ -u by grind); grind

theorem cos_near {u v d : Rat} (hu : 0 ≤ u) (huv : u ≤ v) (hd : v - u ≤ d) (hv : v ≤ 787 / 1000) : cosP u - cosP v ≤ d ∧ cosP v - cosP u ≤ d := by
  have h1 := sq_le hu huv
  have h2 := sq_le (show 0 ≤ v by grind) hv
  have h3 := cos_diff (sq_nn u) h1 (by grind)
  have h4 : v * v - u * u ≤ 1574 / 1000 * (v - u) := by
    have := mul_nn (show 0 ≤ v - u by grind) (show 0 ≤ 1574 / 1000 - (v + u) by grind)
    grind
  constructor <;> grind

theorem G0_cos {w g : Rat} (h : G0 w g) (hw : w ≤ Q4 + 1 / 1000000000000) : 0 ≤ w ∧ g - cosP w ≤ 5 / 1000000000000 ∧ cosP w - g ≤ 5 / 1000000000000 := by
  have q1 := Q4_lo; have q2 := Q4_hi
  rcases h with ⟨h1, h2, rfl⟩ | ⟨h1, h2, rfl⟩
  · refine ⟨h1, ?_, ?_⟩ <;> grind
  · have s := seam
    have a : sinP (2 * Q4 - w) - sinP Q4 ≤ 2 / 1000000000000 ∧ sinP Q4 - sinP (2 * Q4 - w) ≤ 2 / 1000000000000 := by
      rcases Rat.le_total (a := w) (b := Q4) with h | h
      · have := sin_diff (u := Q4) (v := 2 * Q4 - w) (by grind) (by grind) (by grind)
        constructor <;> grind
      · have := sin_diff (u := 2 * Q4 - w) (v := Q4) (by grind) (by grind) (by grind)
        constructor <;> grind
    have b : cosP w - cosP Q4 ≤ 2 / 1000000000000 ∧ cosP Q4 - cosP w ≤ 2 / 1000000000000 := by
      rcases Rat.le_total (a := w) (b := Q4) with h | h
      · have := cos_near (u := w) (v := Q4) (d := 1 / 1000000000000) (by grind) h (by grind) (by grind)
        constructor <;> grind
      · have := cos_near (u := Q4) (v := w) (d := 1 / 1000000000000) (by grind) h (by grind) (by grind)
        constructor <;> grind
    refine ⟨by grind, ?_, ?_⟩ <;> grind
theorem G0_sin {w g : Rat} (h : G0 w g) (hw : Q4 - 1 / 1000000000000 ≤ w) : w ≤ 2 * Q4 + 1 / 50 ∧ g - sinP (2 * Q4 - w) ≤ 5 / 1000000000000 ∧ sinP (2 * Q4 - w) - g ≤ 5 / 1000000000000 := by
  have q1 := Q4_lo; have q2 := Q4_hi
  rcases h with ⟨h1, h2, rfl⟩ | ⟨h1, h2, rfl⟩
  · have s := seam
    have a : sinP (2 * Q4 - w) - sinP Q4 ≤ 2 / 1000000000000 ∧ sinP Q4 - sinP (2 * Q4 - w) ≤ 2 / 1000000000000 := by
      rcases Rat.le_total (a := w) (b := Q4) with h | h
      · have := sin_diff (u := Q4) (v := 2 * Q4 - w) (by grind) (by grind) (by grind)
        constructor <;> grind
      · have := sin_diff (u := 2 * Q4 - w) (v := Q4) (by grind) (by grind) (by grind)
        constructor <;> grind
    have b : cosP w - cosP Q4 ≤ 2 / 1000000000000 ∧ cosP Q4 - cosP w ≤ 2 / 1000000000000 := by
      rcases Rat.le_total (a := w) (b := Q4) with h | h
      · have := cos_near (u := w) (v := Q4) (d := 1 / 1000000000000) (by grind) h (by grind) (by grind)
        constructor <;> grind
      · have := cos_near (u := Q4) (v := w) (d := 1 / 1000000000000) (by grind) h (by grind) (by grind)
        constructor <;> grind
    refine ⟨by grind, ?_, ?_⟩ <;> grind
  · refine ⟨h2, ?_, ?_⟩ <;> grind

theorem G0_nonneg {w g : Rat} (h : G0 w g) : 0 ≤ w := by
  have q1 := Q4_lo
  rcases h with ⟨h1, _, _⟩ | ⟨h1, _, _⟩ <;> grind

theorem G0_diff {u v g h : Rat} (hg : G0 u g) (hh : G0 v h) (huv : u ≤ v) :
    1 / 5 * (v * v - u * u) - 2 / 100000000000 ≤ g - h ∧ (v ≤ 4 / 5 → 41 / 100 * (v * v - u * u) - 2 / 100000000000 ≤ g - h) ∧ g - h ≤ (v * v - u * u) + 2 / 100000000000 := by
  have q1 := Q4_lo; have q2 := Q4_hi
  have hu0 := G0_nonneg hg
  have hsq := sq_le hu0 huv
  rcases Rat.le_total (a := v) (b := Q4) with hv | hv
  · have a := G0_cos hg (by grind)
    have b := G0_cos hh (by grind)
    have h2 := sq_le (show 0 ≤ v by grind) (show v ≤ 787 / 1000 by grind)
    have c := cos_diff (sq_nn u) hsq (by grind)
    refine ⟨?_, fun _ => ?_, ?_⟩ <;> grind
  · have b := G0_sin hh (by grind)
    rcases Rat.le_total (a := Q4) (b := u) with hu | hu
    · have a := G0_sin hg (by grind)
      have c := sin_diff (u := 2 * Q4 - v) (v := 2 * Q4 - u) (by grind) (by grind) (by grind)
      have m1 := mul_nn (show 0 ≤ v - u by grind) (show 0 ≤ 32 / 10 - (v + u) by grind)
      have m2 := mul_nn (show 0 ≤ v - u by grind) (show 0 ≤ (v + u) - 15 / 10 by grind)
      refine ⟨?_, fun h8 => ?_, ?_⟩
      · grind
      · have m3 := mul_nn (show 0 ≤ v - u by grind) (show 0 ≤ 16 / 10 - (v + u) by grind)
        grind
      · grind
    · have a := G0_cos hg (by grind)
      have s := seam
      have hsu := sq_le hu0 hu
      have h2 := sq_le (show 0 ≤ Q4 by grind) (show Q4 ≤ 787 / 1000 by grind)
      have c1 := cos_diff (sq_nn u) hsu (by grind)
      have c2 := sin_diff (u := 2 * Q4 - v) (v := Q4) (by grind) (by grind) (by grind)
      have m1 := mul_nn (show 0 ≤ v - Q4 by grind) (show 0 ≤ 32 / 10 - (v + Q4) by grind)
      have m2 := mul_nn (show 0 ≤ v - Q4 by grind) (show 0 ≤ (v + Q4) - 15 / 10 by grind)
      refine ⟨?_, fun h8 => ?_, ?_⟩
      · grind
      · have m3 := mul_nn (show 0 ≤ v - Q4 by grind) (show 0 ≤ 16 / 10 - (v + Q4) by grind)
        grind
      · grind

theorem G0_small {u g : Rat} (hg : G0 u g) (h : u ≤ 7 / 10) : 0 ≤ u ∧ g = cosP u := by
  have q1 := Q4_lo
  rcases hg with ⟨h1, _, h2⟩ | ⟨h1, _, _⟩
  · exact ⟨h1, h2⟩
  · exfalso; grind

theorem G_abs {θ g : Rat} (h : G θ g) : ∃ w, 0 ≤ w ∧ w * w = θ * θ ∧ (w = θ ∨ w = -θ) ∧ G0 w g := by
  rcases h with ⟨h1, h2⟩ | ⟨h1, h2⟩
  · exact ⟨θ, h1, rfl, Or.inl rfl, h2⟩
  · exact ⟨-θ, by grind, by grind, Or.inr rfl, h2⟩

/-- How the cosine falls from θ to φ. -/
theorem G_diff {θ φ g h : Rat} (hg : G θ g) (hh : G φ h) (hs : θ * θ ≤ φ * φ) :
    1 / 5 * (φ * φ - θ * θ) - 2 / 100000000000 ≤ g - h ∧ (φ * φ ≤ 16 / 25 → 41 / 100 * (φ * φ - θ * θ) - 2 / 100000000000 ≤ g - h) ∧ g - h ≤ (φ * φ - θ * θ) + 2 / 100000000000 := by
  obtain ⟨u, hu, eu, _, gu⟩ := G_abs hg
  obtain ⟨v, hv, ev, _, gv⟩ := G_abs hh
  have huv := le_of_sq hv (by rw [eu, ev]; exact hs)
  have d := G0_diff gu gv huv
  rw [← eu, ← ev]
  refine ⟨d.1, fun h8 => d.2.1 (le_of_sq (by decide +kernel) (by grind)), d.2.2⟩
/-- The same near the multiple of pi. -/
theorem G_diff_small {θ φ g h : Rat} (hg : G θ g) (hh : G φ h) (hs : θ * θ ≤ φ * φ) (hφ : φ * φ ≤ 49 / 100) :
    41 / 100 * (φ * φ - θ * θ) ≤ g - h ∧ g - h ≤ (φ * φ - θ * θ) := by
  obtain ⟨u, hu, eu, _, gu⟩ := G_abs hg
  obtain ⟨v, hv, ev, _, gv⟩ := G_abs hh
  have huv := le_of_sq hv (by rw [eu, ev]; exact hs)
  have hv7 : v ≤ 7 / 10 := le_of_sq (by decide +kernel) (by grind)
  obtain ⟨_, rfl⟩ := G0_small gu (by grind)
  obtain ⟨_, rfl⟩ := G0_small gv hv7
  have c := cos_diff (u := u) (v := v) (sq_nn u) (by grind) (by grind)
  rw [← eu, ← ev]
  constructor <;> grind

theorem G_bd {θ g : Rat} (h : G θ g) : Bd g (11 / 10) ∧ (θ * θ ≤ 16 / 25 → 1 / 2 ≤ g) ∧ (θ * θ ≤ 9 / 4 → 47 / 1000 ≤ g) := by
  have q1 := Q4_lo; have q2 := Q4_hi
  obtain ⟨w, hw, ew, _, gw⟩ := G_abs h
  rw [← ew]
  rcases gw with ⟨h1, h2, rfl⟩ | ⟨h1, h2, rfl⟩
  · have h3 := sq_le hw (show w ≤ 787 / 1000 by grind)
    have c := cos_diff (u := 0) (v := w) (sq_nn 0) (by have := sq_nn w; grind) (by grind)
    have := sq_nn w
    rw [cosP_zero] at c
    refine ⟨⟨?_, ?_⟩, fun _ => ?_, fun _ => ?_⟩ <;> grind
  · rcases Rat.le_total (a := w) (b := 2 * Q4) with h | h
    · have c := sin_diff (u := 0) (v := 2 * Q4 - w) (by decide +kernel) (by grind) (by grind)
      rw [sinP_zero] at c
      refine ⟨⟨?_, ?_⟩, fun h8 => ?_, fun h8 => ?_⟩
      · grind
      · grind
      · have := le_of_sq (u := w) (v := 4 / 5) (by decide +kernel) (by grind)
        grind
      · have := le_of_sq (u := w) (v := 3 / 2) (by decide +kernel) (by grind)
        grind
    · have c := sin_diff (u := 2 * Q4 - w) (v := 0) (by grind) (by grind) (by decide +kernel)
      rw [sinP_zero] at c
      refine ⟨⟨?_, ?_⟩, fun h8 => ?_, fun h8 => ?_⟩
      · grind
      · grind
      · have := le_of_sq (u := w) (v := 4 / 5) (by decide +kernel) (by grind)
        grind
      · have := le_of_sq (u := w) (v := 3 / 2) (by decide +kernel) (by grind)
        grind
end Go.Proofs.Qxb6609382aFmt.Fl
