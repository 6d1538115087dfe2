import Derived.Test.Qxb6609382aFmtFo
/-! Chains of float operations with their bounds: 'Fx x a A e': the word x is worth a up to e, and a lies within A. -/
namespace Go.Proofs.Qxb6609382aFmt.Fl

def Bd (a A : Rat) : Prop := a ≤ A ∧ -a ≤ A
def Fx (x : Nat) (a A e : Rat) : Prop := ∃ q, fv x = some q ∧ Bd (q - a) e ∧ Bd a A

theorem Bd.nonneg {a A : Rat} (h : Bd a A) : 0 ≤ A := by
  have h1 := h.1; have h2 := h.2
  grind
theorem Bd.mono {a A B : Rat} (h : Bd a A) (hb : A ≤ B) : Bd a B := by
  have h1 := h.1; have h2 := h.2
  exact ⟨by grind, by grind⟩
theorem Bd.add {a b A B : Rat} (h : Bd a A) (g : Bd b B) : Bd (a + b) (A + B) := by
  have h1 := h.1; have h2 := h.2; have g1 := g.1; have g2 := g.2
  exact ⟨by grind, by grind⟩
theorem Bd.sub {a b A B : Rat} (h : Bd a A) (g : Bd b B) : Bd (a - b) (A + B) := by
  have h1 := h.1; have h2 := h.2; have g1 := g.1; have g2 := g.2
  exact ⟨by grind, by grind⟩
theorem Bd.neg {a A : Rat} (h : Bd a A) : Bd (-a) A := by
  have h1 := h.1; have h2 := h.2
  exact ⟨by grind, by grind⟩
theorem mul_nn {a b : Rat} (ha : 0 ≤ a) (hb : 0 ≤ b) : 0 ≤ a * b := Rat.mul_nonneg ha hb
theorem Bd.mul {a b A B : Rat} (h : Bd a A) (g : Bd b B) : Bd (a * b) (A * B) := by
  have h1 := h.1; have h2 := h.2; have g1 := g.1; have g2 := g.2
  have p1 := mul_nn (show 0 ≤ A - a by grind) (show 0 ≤ B + b by grind)
  have p2 := mul_nn (show 0 ≤ A + a by grind) (show 0 ≤ B - b by grind)
  have p3 := mul_nn (show 0 ≤ A - a by grind) (show 0 ≤ B - b by grind)
  have p4 := mul_nn (show 0 ≤ A + a by grind) (show 0 ≤ B + b by grind)
  exact ⟨by grind, by grind⟩
theorem Bd.zero {A : Rat} (h : 0 ≤ A) : Bd 0 A := ⟨h, by grind⟩
theorem Bd.of {a A : Rat} (h : a ≤ A ∧ -a ≤ A) : Bd a A := h

theorem Fx.mono {x : Nat} {a A e B f : Rat} (h : Fx x a A e) (hA : A ≤ B) (he : e ≤ f) : Fx x a B f := by
  obtain ⟨q, hq, h1, h2⟩ := h
  exact ⟨q, hq, h1.mono he, h2.mono hA⟩
/-- Re-anchored at another value. -/
theorem Fx.at {x : Nat} {a A e b B d f : Rat} (h : Fx x a A e) (hd : Bd (a - b) d) (hB : Bd b B) (hf : e + d ≤ f) : Fx x b B f := by
  obtain ⟨q, hq, h1, h2⟩ := h
  refine ⟨q, hq, ?_, hB⟩
  have := h1.add hd
  have e1 : q - a + (a - b) = q - b := by grind
  rw [e1] at this
  exact this.mono hf
theorem Fx.lit {x : Nat} {a A : Rat} (h : fv x = some a) (hA : Bd a A) : Fx x a A 0 := ⟨a, h, by constructor <;> grind, hA⟩
theorem Fx.worth {x : Nat} {a A e : Rat} (h : Fx x a A e) : ∃ q, fv x = some q ∧ Bd (q - a) e ∧ Bd q (A + e) := by
  obtain ⟨q, hq, h1, h2⟩ := h
  refine ⟨q, hq, h1, ?_⟩
  have := h2.add h1
  have e1 : a + (q - a) = q := by grind
  rw [e1] at this
  exact this

theorem Fx.mul {x y : Nat} {a b A B e f : Rat} (k : Int) (C E : Rat) (hx : Fx x a A e) (hy : Fx y b B f)
    (h : A * B ≤ C ∧ A * f + e * (B + f) + p2 (k - 53) ≤ E ∧ (A + e) * (B + f) ≤ p2 k ∧ -1022 ≤ k ∧ k ≤ 1022) :
    ∃ r, Ieee.double.mul x y = some r ∧ Fx r (a * b) C E := by
  obtain ⟨h1, h2, h3, k1, k2⟩ := h
  obtain ⟨q, hq, e1, b1⟩ := hx.worth
  obtain ⟨s, hs, e2, b2⟩ := hy.worth
  obtain ⟨_, _, _, ba⟩ := hx
  obtain ⟨_, _, _, bb⟩ := hy
  have bq := b1.mul b2
  obtain ⟨r, hr, v, hv, n1, n2⟩ := mul_near hq hs k (by have := bq.1; grind) (by have := bq.2; grind) k1 k2
  refine ⟨r, hr, v, hv, ?_, (ba.mul bb).mono h1⟩
  have t1 := e1.mul b2
  have t2 := ba.mul e2
  have t3 : Bd (v - q * s) (p2 (k - 53)) := ⟨n1, by grind⟩
  have t := (t2.add t1).add t3
  have e3 : a * (s - b) + (q - a) * s + (v - q * s) = v - a * b := by grind
  rw [e3] at t
  exact t.mono h2

theorem Fx.add' {x y : Nat} {a b A B e f : Rat} (k : Int) (C E : Rat) (hx : Fx x a A e) (hy : Fx y b B f) (hC : Bd (a + b) C)
    (h : e + f + p2 (k - 53) ≤ E ∧ C + e + f ≤ p2 k ∧ -1022 ≤ k ∧ k ≤ 1022) :
    ∃ r, Ieee.double.add x y = some r ∧ Fx r (a + b) C E := by
  obtain ⟨h2, h3, k1, k2⟩ := h
  obtain ⟨q, hq, e1, b1⟩ := hx
  obtain ⟨s, hs, e2, b2⟩ := hy
  have bq : Bd (q + s) (C + e + f) := by
    have := (hC.add e1).add e2
    have e3 : a + b + (q - a) + (s - b) = q + s := by grind
    rw [e3] at this
    exact this
  obtain ⟨r, hr, v, hv, n1, n2⟩ := add_near hq hs k (by have := bq.1; grind) (by have := bq.2; grind) k1 k2
  refine ⟨r, hr, v, hv, ?_, hC⟩
  have t3 : Bd (v - (q + s)) (p2 (k - 53)) := ⟨n1, by grind⟩
  have t := (e1.add e2).add t3
  have e3 : q - a + (s - b) + (v - (q + s)) = v - (a + b) := by grind
  rw [e3] at t
  exact t.mono h2

theorem Fx.sub' {x y : Nat} {a b A B e f : Rat} (k : Int) (C E : Rat) (hx : Fx x a A e) (hy : Fx y b B f) (hC : Bd (a - b) C)
    (h : e + f + p2 (k - 53) ≤ E ∧ C + e + f ≤ p2 k ∧ -1022 ≤ k ∧ k ≤ 1022) :
    ∃ r, Ieee.double.sub x y = some r ∧ Fx r (a - b) C E := by
  obtain ⟨h2, h3, k1, k2⟩ := h
  obtain ⟨q, hq, e1, b1⟩ := hx
  obtain ⟨s, hs, e2, b2⟩ := hy
  have bq : Bd (q - s) (C + e + f) := by
    have := (hC.add e1).sub e2
    have e3 : a - b + (q - a) - (s - b) = q - s := by grind
    rw [e3] at this
    exact this
  obtain ⟨r, hr, v, hv, n1, n2⟩ := sub_near hq hs k (by have := bq.1; grind) (by have := bq.2; grind) k1 k2
  refine ⟨r, hr, v, hv, ?_, hC⟩
  have t3 : Bd (v - (q - s)) (p2 (k - 53)) := ⟨n1, by grind⟩
  have t := (e1.sub e2).add t3
  have e3 : q - a - (s - b) + (v - (q - s)) = v - (a - b) := by grind
  rw [e3] at t
  exact t.mono h2

theorem Fx.add {x y : Nat} {a b A B e f : Rat} (k : Int) (C E : Rat) (hx : Fx x a A e) (hy : Fx y b B f)
    (h : A + B ≤ C ∧ e + f + p2 (k - 53) ≤ E ∧ C + e + f ≤ p2 k ∧ -1022 ≤ k ∧ k ≤ 1022) :
    ∃ r, Ieee.double.add x y = some r ∧ Fx r (a + b) C E := by
  obtain ⟨_, _, _, b1⟩ := id hx
  obtain ⟨_, _, _, b2⟩ := id hy
  exact hx.add' k C E hy ((b1.add b2).mono h.1) h.2
theorem Fx.sub {x y : Nat} {a b A B e f : Rat} (k : Int) (C E : Rat) (hx : Fx x a A e) (hy : Fx y b B f)
    (h : A + B ≤ C ∧ e + f + p2 (k - 53) ≤ E ∧ C + e + f ≤ p2 k ∧ -1022 ≤ k ∧ k ≤ 1022) :
    ∃ r, Ieee.double.sub x y = some r ∧ Fx r (a - b) C E := by
  obtain ⟨_, _, _, b1⟩ := id hx
  obtain ⟨_, _, _, b2⟩ := id hy
  exact hx.sub' k C E hy ((b1.sub b2).mono h.1) h.2

theorem bd_div {a A b C : Rat} (hb : 0 < b) (h : Bd a A) (hC : A ≤ C * b) : Bd (a / b) C := by
  have e : a / b * b = a := Rat.div_mul_cancel (by grind)
  have h1 := h.1; have h2 := h.2
  constructor
  · exact Rat.le_of_mul_le_mul_right (by rw [e]; grind) hb
  · exact Rat.le_of_mul_le_mul_right (by rw [show -(a / b) * b = -(a / b * b) by grind, e]; grind) hb

/-- By a divisor that is known to the bit. -/
theorem Fx.divc {x y : Nat} {a b A e : Rat} (k : Int) (C E : Rat) (hx : Fx x a A e) (hy : fv y = some b)
    (h : 0 < b ∧ A ≤ C * b ∧ e ≤ (E - p2 (k - 51)) * b ∧ A + e ≤ p2 k * b ∧ -1000 ≤ k ∧ k ≤ 1000) :
    ∃ r, Ieee.double.div x y = some r ∧ Fx r (a / b) C E := by
  obtain ⟨hb, h1, h2, h3, k1, k2⟩ := h
  obtain ⟨q, hq, e1, b1⟩ := hx.worth
  obtain ⟨_, _, _, ba⟩ := hx
  have bq := bd_div hb b1 h3
  obtain ⟨r, hr, v, hv, n1, n2⟩ := div_near hq hy (by grind) k bq.1 bq.2 k1 k2
  refine ⟨r, hr, v, hv, ?_, bd_div hb ba h1⟩
  have t1 := bd_div hb e1 h2
  have t3 : Bd (v - q / b) (p2 (k - 51)) := ⟨n1, by grind⟩
  have t := t1.add t3
  have e3 : (q - a) / b + (v - q / b) = v - a / b := by rw [Rat.div_def, Rat.div_def, Rat.div_def]; grind
  rw [e3] at t
  exact t.mono (by grind)
end Go.Proofs.Qxb6609382aFmt.Fl
