import Derived.Test.Qxb6609382aFmtFv
/-! The law's own model of the day: numbers. -/
namespace Go.Proofs.Qxb6609382aFmt.Fl

def kOf (j : Nat) : Int := (j : Int) - 24
def kfW (j : Nat) : Nat := floatOfInt .f64 (kOf j)
theorem fv_kf (j : Nat) (h : j ≤ 48) : fv (kfW j) = some ((kOf j : Int) : Rat) := by
  rcases Nat.lt_or_ge j 24 with h1 | h1
  · have e : kOf j = -((24 - j : Nat) : Int) := by unfold kOf; omega
    rw [kfW, e, ofInt_neg (24 - j) (by omega) (by omega)]
    rw [Rat.intCast_neg]; rfl
  · have e : kOf j = ((j - 24 : Nat) : Int) := by unfold kOf; omega
    rw [kfW, e, ofInt_val (j - 24) (by omega)]; rfl
theorem bd_k (j : Nat) (h : j ≤ 48) : Bd ((kOf j : Int) : Rat) 24 := by
  have h1 : ((kOf j : Int) : Rat) ≤ ((24 : Int) : Rat) := Rat.intCast_le_intCast.mpr (by unfold kOf; omega)
  have h2 : (((-24 : Int)) : Rat) ≤ ((kOf j : Int) : Rat) := Rat.intCast_le_intCast.mpr (by unfold kOf; omega)
  have e1 : ((24 : Int) : Rat) = 24 := rfl
  have e2 : ((-24 : Int) : Rat) = -24 := rfl
  rw [e1] at h1; rw [e2] at h2
  exact ⟨h1, by grind⟩

def hW (j : Nat) : Nat := (Ieee.double.mul (kfW j) 4614256656552045848).getD 0
def dW (h0 j : Nat) : Nat := (Ieee.double.sub (hW j) h0).getD 0
def tW (h0 j : Nat) : Nat := (Ieee.double.div (dW h0 j) 4618779624111797601).getD 0

/-- The j-th multiple's instant and hour angle. -/
theorem model_near {h0 : Nat} {η : Rat} (hh : fv h0 = some η) (bh : Bd η 64) (j : Nat) (hj : j ≤ 48) :
    Ieee.double.mul (kfW j) 4614256656552045848 = some (hW j) ∧ Ieee.double.sub (hW j) h0 = some (dW h0 j) ∧ Ieee.double.div (dW h0 j) 4618779624111797601 = some (tW h0 j) ∧
      fv (hW j) = some (wv (hW j)) ∧ fv (tW h0 j) = some (wv (tW h0 j)) ∧ Bd (wv (hW j) - ((kOf j : Int) : Rat) * (4 * Q4)) (1 / 10000000000000) ∧ Bd (Wr * wv (tW h0 j) - (((kOf j : Int) : Rat) * (4 * Q4) - η)) (4 / 10000000000000) ∧ Bd (wv (tW h0 j)) 30 := by
  have bk := bd_k j hj
  obtain ⟨h, e1, f1⟩ := Fx.mul 7 96 (15 / 1000000000000000) (Fx.lit (fv_kf j hj) bk) (Fx.lit fv_half_turn (A := 4) (by constructor <;> decide +kernel)) (by decide +kernel)
  obtain ⟨qh, v1, d1, b1⟩ := f1.worth
  obtain ⟨dd, e2, f2⟩ := Fx.sub 8 161 (3 / 100000000000000) (Fx.lit v1 (A := 97) (b1.mono (by decide +kernel))) (Fx.lit hh bh) (by decide +kernel)
  obtain ⟨t, e3, f3⟩ := Fx.divc 5 29 (35 / 1000000000000000) f2 fv_W (by decide +kernel)
  obtain ⟨qt, v3, d3, b3⟩ := f3.worth
  have hh1 : hW j = h := by simp [hW, e1]
  have hd1 : dW h0 j = dd := by simp [dW, hh1, e2]
  have ht1 : tW h0 j = t := by simp [tW, hd1, e3]
  rw [hh1, hd1, ht1]
  obtain ⟨w1, w2⟩ := fv_wv v1
  obtain ⟨w3, w4⟩ := fv_wv v3
  have tq : TP / 2 - 4 * Q4 ≤ 2 / 10000000000000000 ∧ -(TP / 2 - 4 * Q4) ≤ 2 / 10000000000000000 := by decide +kernel
  have kt := bk.mul (show Bd (TP / 2 - 4 * Q4) (2 / 10000000000000000) from tq)
  have k1 := kt.1; have k2 := kt.2
  have x1 := d1.1; have x2 := d1.2
  have e : (qh - η) / Wr * Wr = qh - η := Rat.div_mul_cancel (by decide +kernel)
  have i6 := d3.mul (show Bd Wr 7 by constructor <;> decide +kernel)
  have i7 := i6.1; have i8 := i6.2
  rw [show (qt - (qh - η) / Wr) * Wr = Wr * qt - (qh - η) / Wr * Wr by grind, e] at i7 i8
  refine ⟨e1, e2, e3, w1, w3, ?_, ?_, by rw [w4]; exact b3.mono (by decide +kernel)⟩
  · rw [w2]; exact ⟨by grind, by grind⟩
  · rw [w4]; exact ⟨by grind, by grind⟩

/-- A falling property holds up to a bound. -/
theorem falls (P : Nat → Prop) [DecidablePred P] : ∀ n, (∀ j, j + 1 < n → P (j + 1) → P j) → ∃ l, l ≤ n ∧ ∀ j, j < n → (P j ↔ j < l)
  | 0, _ => ⟨0, Nat.le_refl _, fun j h => absurd h (by omega)⟩
  | n + 1, h => by
    obtain ⟨l, hl, hP⟩ := falls P n (fun j hj => h j (by omega))
    by_cases hn : P n
    · have all : ∀ d, d ≤ n → P (n - d) := fun d => by
        induction d with
        | zero => intro _; exact hn
        | succ d ih =>
          intro hd
          have := ih (by omega)
          have e : n - d = n - (d + 1) + 1 := by omega
          rw [e] at this
          exact h _ (by omega) this
      refine ⟨n + 1, Nat.le_refl _, fun j hj => ⟨fun _ => hj, fun _ => ?_⟩⟩
      have := all (n - j) (by omega)
      rwa [show n - (n - j) = j by omega] at this
    · refine ⟨l, by omega, fun j hj => ?_⟩
      by_cases he : j = n
      · subst he; exact ⟨fun h => absurd h hn, fun h => absurd h (by omega)⟩
      · exact hP j (by omega)
end Go.Proofs.Qxb6609382aFmt.Fl
