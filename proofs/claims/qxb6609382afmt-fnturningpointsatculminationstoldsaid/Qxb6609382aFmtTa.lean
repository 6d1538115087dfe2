import Derived.Test.Qxb6609382aFmtS
import Derived.Test.Qxb6609382aFmtFw
namespace Go.Proofs.Qxb6609382aFmt.W
open Go.RowKit Go.Proofs.Qxb6609382aFmt.Fl

theorem fin_of {x lo hi : Nat} {a b : Rat} (hx : x < 18446744073709551616) (hl : fv lo = some a) (hh : fv hi = some b)
    (h1 : (FloatKind.f64.format.order x lo == some .gt || FloatKind.f64.format.order x lo == some .eq) = true) (h2 : (FloatKind.f64.format.order x hi == some .lt || FloatKind.f64.format.order x hi == some .eq) = true) : ∃ q, fv x = some q ∧ a ≤ q ∧ q ≤ b := by
  obtain ⟨sl, ml, il, rl, _⟩ := fv_some hl
  obtain ⟨sh, mh, ih, rh, _⟩ := fv_some hh
  cases hr : Ieee.double.read x with
  | number s m i =>
    have hv : fv x = some (sgn s * (m : Rat) * p2 i) := by simp [fv, hx, hr, dval]
    refine ⟨_, hv, ?_, ?_⟩
    · rcases order_val hv hl with ⟨_, h⟩ | ⟨h, _⟩ | ⟨h, _⟩
      · have : FloatKind.f64.format.order x lo = some .lt := h
        rw [this] at h1; cases h1
      · grind
      · grind
    · rcases order_val hv hh with ⟨h, _⟩ | ⟨h, _⟩ | ⟨_, h⟩
      · grind
      · grind
      · have : FloatKind.f64.format.order x hi = some .gt := h
        rw [this] at h2; cases h2
  | infinity s =>
    exfalso
    cases s
    · have : FloatKind.f64.format.order x hi = some .gt := by
        show Ieee.double.order x hi = some .gt
        unfold Ieee.Format.order; rw [hr, rh]; rfl
      rw [this] at h2; cases h2
    · have : FloatKind.f64.format.order x lo = some .lt := by
        show Ieee.double.order x lo = some .lt
        unfold Ieee.Format.order; rw [hr, rl]; rfl
      rw [this] at h1; cases h1
  | nan s f =>
    exfalso
    have : FloatKind.f64.format.order x lo = none := by
      show Ieee.double.order x lo = none
      unfold Ieee.Format.order; rw [hr, rl]; rfl
    rw [this] at h1; cases h1

theorem dayOK_of {dec h0 sa sl cl : Nat} (h : InDom dec h0 sa sl cl) (b1 : dec < 18446744073709551616) (b2 : h0 < 18446744073709551616) (b3 : sa < 18446744073709551616) (b4 : sl < 18446744073709551616) (b5 : cl < 18446744073709551616) : ∃ δ η α σ κ, DayOK dec h0 sa sl cl δ η α σ κ := by
  obtain ⟨c0, c1, c2, c3, c4, c5, c6, c7, c8, c9⟩ := h
  obtain ⟨δ, v0, l0, u0⟩ := fin_of (a := -3 / 2) (b := 3 / 2) b1 (by decide +kernel) (by decide +kernel) c0 c1
  obtain ⟨η, v1, l1, u1⟩ := fin_of (a := -64) (b := 64) b2 (by decide +kernel) (by decide +kernel) c2 c3
  obtain ⟨α, v2, l2, u2⟩ := fin_of (a := -1) (b := 1) b3 (by decide +kernel) (by decide +kernel) c4 c5
  obtain ⟨σ, v3, l3, u3⟩ := fin_of (a := -1) (b := 1) b4 (by decide +kernel) (by decide +kernel) c6 c7
  obtain ⟨κ, v4, l4, u4⟩ := fin_of (a := 3602879701896397 / 72057594037927936) (b := 1) b5 (by decide +kernel) (by decide +kernel) c8 c9
  exact ⟨δ, η, α, σ, κ, v0, ⟨by grind, by grind⟩, v1, ⟨by grind, by grind⟩, v2, ⟨by grind, by grind⟩, v3, ⟨by grind, by grind⟩, v4, by grind, ⟨by grind, by grind⟩⟩

theorem lohi {h0 : Nat} {η : Rat} (hh : fv h0 = some η) (bh : Bd η 64) : ∃ lo hi, lo ≤ hi ∧ hi ≤ 49 ∧ (∀ j, j < 49 → (wv (tW h0 j) ≤ 0 ↔ j < lo)) ∧ (∀ j, j < 49 → (wv (tW h0 j) < 1 ↔ j < hi)) := by
  have q1 := Q4_lo
  have step : ∀ j, j + 1 < 49 → wv (tW h0 j) ≤ wv (tW h0 (j + 1)) := fun j hj => by
    obtain ⟨_, _, _, _, _, _, a, _⟩ := model_near hh bh j (by omega)
    obtain ⟨_, _, _, _, _, _, b, _⟩ := model_near hh bh (j + 1) (by omega)
    have e : ((kOf (j + 1) : Int) : Rat) = ((kOf j : Int) : Rat) + 1 := by
      have : kOf (j + 1) = kOf j + 1 := by unfold kOf; omega
      rw [this, Rat.intCast_add]; rfl
    rw [e] at b
    have a1 := a.1; have a2 := a.2; have b1 := b.1; have b2 := b.2
    simp only [Wr] at a1 a2 b1 b2
    grind
  obtain ⟨lo, l1, l2⟩ := falls (fun j => wv (tW h0 j) ≤ 0) 49 (fun j hj h => Rat.le_trans (step j hj) h)
  obtain ⟨hi, h1, h2⟩ := falls (fun j => wv (tW h0 j) < 1) 49 (fun j hj h => by have := step j hj; grind)
  refine ⟨lo, hi, ?_, h1, l2, h2⟩
  rcases Nat.lt_or_ge hi lo with h | h
  · have := (l2 hi (by omega)).2 h
    have h3 := (h2 hi (by omega)).1 (by grind)
    omega
  · exact h

theorem sep_of {h0 : Nat} {η : Rat} (hh : fv h0 = some η) (bh : Bd η 64) (hf : ∀ j, j ≤ 48 → Far (wv (tW h0 j))) : Fl.Sep η := by
  intro j
  have q1 := Q4_lo; have q2 := Q4_hi; have w1 := Wr_lo; have w2 := Wr_hi; have b1 := bh.1; have b2 := bh.2
  rcases Int.lt_or_le j (-24) with h | h
  · have h1 : (j : Rat) ≤ ((-25 : Int) : Rat) := Rat.intCast_le_intCast.mpr (by omega)
    have e : ((-25 : Int) : Rat) = -25 := rfl
    rw [e] at h1
    have m := mul_nn (show 0 ≤ -25 - (j : Rat) by grind) (show 0 ≤ Q4 by grind)
    exact ⟨Or.inr (by grind), Or.inr (by grind)⟩
  · rcases Int.lt_or_le 24 j with h' | h'
    · have h1 : ((25 : Int) : Rat) ≤ (j : Rat) := Rat.intCast_le_intCast.mpr (by omega)
      have e : ((25 : Int) : Rat) = 25 := rfl
      rw [e] at h1
      have m := mul_nn (show 0 ≤ (j : Rat) - 25 by grind) (show 0 ≤ Q4 by grind)
      exact ⟨Or.inl (by grind), Or.inl (by grind)⟩
    · obtain ⟨i, hi⟩ : ∃ i : Nat, j = kOf i := ⟨(j + 24).toNat, by unfold kOf; omega⟩
      have hi48 : i ≤ 48 := by unfold kOf at hi; omega
      obtain ⟨_, _, _, _, _, _, a, _⟩ := model_near hh bh i hi48
      obtain ⟨f1, f2⟩ := hf i hi48
      rw [← hi] at a
      have a1 := a.1; have a2 := a.2
      simp only [Wr] at a1 a2 ⊢
      constructor
      · rcases f1 with f | f
        · exact Or.inl (by grind)
        · exact Or.inr (by grind)
      · rcases f2 with f | f
        · exact Or.inl (by grind)
        · exact Or.inr (by grind)

theorem natRat (k : Int) (N : Nat) : (k : Rat) + (N : Rat) = ((k + N : Int) : Rat) := by rw [Rat.intCast_add]; rfl
/-- Where the model's list begins and ends. -/
theorem lohi_at {h0 : Nat} {η : Rat} {k : Int} {N0 n lo hi : Nat} (hh : fv h0 = some η) (bh : Bd η 64) (hlo : ∀ j, j < 49 → (wv (tW h0 j) ≤ 0 ↔ j < lo)) (hhi : ∀ j, j < 49 → (wv (tW h0 j) < 1 ↔ j < hi)) (h1 : EndOK η k N0 0) (h2 : EndOK η k n 4607182418800017408) : (lo : Int) = k + N0 + 24 ∧ (hi : Int) = k + n + 24 := by
  have q1 := Q4_lo; have q2 := Q4_hi; have w1 := Wr_lo; have w2 := Wr_hi; have b1 := bh.1; have b2 := bh.2
  have key : ∀ (K : Int) (x : Rat), -(6401 / 100) ≤ x → x ≤ 704 / 10 → 6 / 1000 ≤ x - ((K : Rat) - 1) * (4 * Q4) → 6 / 1000 ≤ (K : Rat) * (4 * Q4) - x → -23 ≤ K ∧ K ≤ 23 := fun K x x1 x2 y1 y2 => by
    constructor
    · rcases Int.lt_or_le K (-23) with h | h
      · have h3 : (K : Rat) ≤ ((-24 : Int) : Rat) := Rat.intCast_le_intCast.mpr (by omega)
        have e : ((-24 : Int) : Rat) = -24 := rfl
        rw [e] at h3
        have m := mul_nn (show 0 ≤ -24 - (K : Rat) by grind) (show 0 ≤ Q4 by grind)
        exfalso; grind
      · exact h
    · rcases Int.lt_or_le 23 K with h | h
      · have h3 : ((24 : Int) : Rat) ≤ (K : Rat) := Rat.intCast_le_intCast.mpr (by omega)
        have e : ((24 : Int) : Rat) = 24 := rfl
        rw [e] at h3
        have m := mul_nn (show 0 ≤ (K : Rat) - 24 by grind) (show 0 ≤ Q4 by grind)
        exfalso; grind
      · exact h
  obtain ⟨τ0, v0, _, _, y1, y2⟩ := h1
  obtain rfl : 0 = τ0 := by have := fv_nought; rw [v0] at this; exact (Option.some.inj this).symm
  obtain ⟨τ1, v1, _, _, z1, z2⟩ := h2
  obtain rfl : 1 = τ1 := by have := fv_one; rw [v1] at this; exact (Option.some.inj this).symm
  rw [natRat] at y1 y2 z1 z2
  have at' : ∀ K : Int, -24 ≤ K → K ≤ 24 → ∃ j : Nat, j ≤ 48 ∧ (j : Int) = K + 24 ∧ Bd (Wr * wv (tW h0 j) - ((K : Rat) * (4 * Q4) - η)) (4 / 10000000000000) := fun K k1 k2 => by
    obtain ⟨j, hj⟩ : ∃ j : Nat, K = kOf j := ⟨(K + 24).toNat, by unfold kOf; omega⟩
    have hj48 : j ≤ 48 := by unfold kOf at hj; omega
    obtain ⟨_, _, _, _, _, _, a, _⟩ := model_near hh bh j hj48
    rw [← hj] at a
    exact ⟨j, hj48, by unfold kOf at hj; omega, a⟩
  have sub1 : ∀ K : Int, ((K - 1 : Int) : Rat) = (K : Rat) - 1 := fun K => by rw [Rat.intCast_sub]; rfl
  constructor
  · obtain ⟨c1, c2⟩ := key (k + N0) η (by grind) (by grind) (by grind) (by grind)
    obtain ⟨ja, ja1, ja2, ja3⟩ := at' (k + N0) (by omega) (by omega)
    obtain ⟨jb, jb1, jb2, jb3⟩ := at' (k + N0 - 1) (by omega) (by omega)
    rw [sub1] at jb3
    have p1 := ja3.1; have p2 := ja3.2; have p3 := jb3.1; have p4 := jb3.2
    simp only [Wr] at p1 p2 p3 p4
    have n1 : ¬ ja < lo := fun h => by have := (hlo ja (by omega)).2 h; grind
    have n2 : jb < lo := (hlo jb (by omega)).1 (by grind)
    omega
  · simp only [Wr] at z1 z2
    obtain ⟨c1, c2⟩ := key (k + n) (η + 7093605684409697 / 1125899906842624 * 1) (by grind) (by grind) (by grind) (by grind)
    obtain ⟨ja, ja1, ja2, ja3⟩ := at' (k + n) (by omega) (by omega)
    obtain ⟨jb, jb1, jb2, jb3⟩ := at' (k + n - 1) (by omega) (by omega)
    rw [sub1] at jb3
    have p1 := ja3.1; have p2 := ja3.2; have p3 := jb3.1; have p4 := jb3.2
    simp only [Wr] at p1 p2 p3 p4
    have n1 : ¬ ja < hi := fun h => by have := (hhi ja (by omega)).2 h; grind
    have n2 : jb < hi := (hhi jb (by omega)).1 (by grind)
    omega
end Go.Proofs.Qxb6609382aFmt.W
