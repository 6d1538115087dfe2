import Derived.Test.Qxb6609382aFmtFf
/-! Go's cosine: the octants, told about a multiple of pi. -/
namespace Go.Proofs.Qxb6609382aFmt.Fl

/-- The sign of the cosine at the k-th multiple of pi. -/
def sg (k : Int) : Rat := if k % 2 = 0 then 1 else -1
/-- What the octant's polynomial, with its sign, is worth. -/
def octV (j : Nat) (ζ : Rat) : Rat := if j % 8 = 0 then cosP ζ else if j % 8 = 2 then -sinP ζ else if j % 8 = 4 then -cosP ζ else sinP ζ

theorem sg_neg (k : Int) : sg (-k) = sg k := by
  unfold sg
  have : -k % 2 = 0 ↔ k % 2 = 0 := by omega
  simp only [this]
theorem sg_succ (k : Int) : sg (k + 1) = -sg k := by
  unfold sg
  by_cases h : k % 2 = 0
  · have : (k + 1) % 2 ≠ 0 := by omega
    simp [h, this]
  · have : (k + 1) % 2 = 0 := by omega
    simp [h, this]
theorem sg_sq (k : Int) : sg k * sg k = 1 := by unfold sg; split <;> grind
theorem G_neg {θ g : Rat} (h : G θ g) : G (-θ) g := by
  rcases h with ⟨h1, h2⟩ | ⟨h1, h2⟩
  · exact Or.inr ⟨by grind, by rw [show - -θ = θ by grind]; exact h2⟩
  · exact Or.inl ⟨by grind, h2⟩

theorem oct_core {b ζ θ : Rat} {j : Nat} {k : Int} (hj : j % 2 = 0) (hζ : ζ = b - (j : Rat) * Q4) (hB : Bd ζ (Q4 + 1 / 1000000000000))
    (hb : b = (k : Rat) * (4 * Q4) + θ) (hθ : Bd θ (2 * Q4 + 1 / 100)) : ∃ g, G θ g ∧ octV j ζ = sg k * g := by
  have q1 := Q4_lo; have q2 := Q4_hi
  obtain ⟨q, rfl⟩ : ∃ q, j = 2 * q := ⟨j / 2, by omega⟩
  have b1 := hB.1; have b2 := hB.2; have t1 := hθ.1; have t2 := hθ.2
  have e0 : ((2 * q : Nat) : Rat) = 2 * (((q : Nat) : Int) : Rat) := by rw [Rat.natCast_mul]; rfl
  rw [e0] at hζ
  have hθe : θ = ζ + (((q : Int) - 2 * k : Int) : Rat) * (2 * Q4) := by
    rw [Rat.intCast_sub, Rat.intCast_mul]
    have : ((2 : Int) : Rat) = 2 := by decide +kernel
    grind
  have hQ : 0 < 2 * Q4 := by grind
  have hlt : (q : Int) - 2 * k < 2 := by
    have : (((q : Int) - 2 * k : Int) : Rat) * (2 * Q4) < ((2 : Int) : Rat) * (2 * Q4) := by
      have : ((2 : Int) : Rat) = 2 := by decide +kernel
      grind
    exact Rat.intCast_lt_intCast.1 (Rat.lt_of_mul_lt_mul_right this (Rat.le_of_lt hQ))
  have hgt : -2 < (q : Int) - 2 * k := by
    have : ((-2 : Int) : Rat) * (2 * Q4) < (((q : Int) - 2 * k : Int) : Rat) * (2 * Q4) := by
      have : ((-2 : Int) : Rat) = -2 := by decide +kernel
      grind
    exact Rat.intCast_lt_intCast.1 (Rat.lt_of_mul_lt_mul_right this (Rat.le_of_lt hQ))
  have hcase : (q : Int) - 2 * k = 0 ∨ (q : Int) - 2 * k = 1 ∨ (q : Int) - 2 * k = -1 := by omega
  rcases hcase with h | h | h
  · have c0 : (((q : Int) - 2 * k : Int) : Rat) = 0 := by rw [h]; rfl
    rw [c0] at hθe
    have hθζ : θ = ζ := by grind
    subst hθζ
    refine ⟨cosP θ, ?_, ?_⟩
    · rcases Rat.le_total (a := 0) (b := θ) with h' | h'
      · exact Or.inl ⟨h', Or.inl ⟨h', b1, rfl⟩⟩
      · exact Or.inr ⟨h', Or.inl ⟨by grind, b2, (cosP_neg θ).symm⟩⟩
    · unfold octV sg
      by_cases hk : k % 2 = 0
      · have : 2 * q % 8 = 0 := by omega
        simp [this, hk]
      · have : 2 * q % 8 = 4 := by omega
        simp [this, hk]; grind
  · have c0 : (((q : Int) - 2 * k : Int) : Rat) = 1 := by rw [h]; rfl
    rw [c0] at hθe
    refine ⟨-sinP ζ, Or.inl ⟨by grind, Or.inr ⟨by grind, by grind, ?_⟩⟩, ?_⟩
    · rw [show 2 * Q4 - θ = -ζ by grind, sinP_neg]
    · unfold octV sg
      by_cases hk : k % 2 = 0
      · have : 2 * q % 8 = 2 := by omega
        simp [this, hk]
      · have : 2 * q % 8 = 6 := by omega
        simp [this, hk]; grind
  · have c0 : (((q : Int) - 2 * k : Int) : Rat) = -1 := by rw [h]; decide +kernel
    rw [c0] at hθe
    refine ⟨sinP ζ, Or.inr ⟨by grind, Or.inr ⟨by grind, by grind, ?_⟩⟩, ?_⟩
    · rw [show 2 * Q4 - -θ = ζ by grind]
    · unfold octV sg
      by_cases hk : k % 2 = 0
      · have : 2 * q % 8 = 6 := by omega
        simp [this, hk]
      · have : 2 * q % 8 = 2 := by omega
        simp [this, hk]; grind

/-- The octant's value is the cosine about every multiple of pi that is near. -/
theorem oct_G {a b ζ : Rat} {j : Nat} (hab : b = a ∨ b = -a) (hj : j % 2 = 0) (hζ : ζ = b - (j : Rat) * Q4) (hB : Bd ζ (Q4 + 1 / 1000000000000)) :
    ∀ (k : Int) (θ : Rat), a = (k : Rat) * (4 * Q4) + θ → Bd θ (2 * Q4 + 1 / 100) → ∃ g, G θ g ∧ octV j ζ = sg k * g := by
  intro k θ ha hθ
  rcases hab with rfl | rfl
  · exact oct_core hj hζ hB ha hθ
  · obtain ⟨g, h1, h2⟩ := oct_core (k := -k) (θ := -θ) hj hζ hB (by rw [ha, Rat.intCast_neg]; grind) hθ.neg
    refine ⟨g, ?_, by rw [h2, sg_neg]⟩
    have := G_neg h1
    rw [show - -θ = θ by grind] at this
    exact this

/-- 'r is the word of the cosine of a number worth a'. -/
def IsCos (a : Rat) (r : Nat) : Prop := ∃ v, Fx r v 2 (1 / 100000000000000) ∧ ∀ (k : Int) (θ : Rat), a = (k : Rat) * (4 * Q4) + θ → Bd θ (2 * Q4 + 1 / 100) → ∃ g, G θ g ∧ v = sg k * g

theorem Fx.neg {x : Nat} {a A e : Rat} (h : Fx x a A e) : Fx (Op.negFloat .f64 x) (-a) A e := by
  obtain ⟨q, hq, h1, h2⟩ := h
  refine ⟨-q, neg_val hq, ?_, h2.neg⟩
  have := h1.neg
  rw [show -(q - a) = -q - -a by grind] at this
  exact this
end Go.Proofs.Qxb6609382aFmt.Fl
