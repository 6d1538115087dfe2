import Derived.Test.Qxb6609382aFmtFu
/-! Where the ends of the intervals lie about the culminations: numbers alone. -/
namespace Go.Proofs.Qxb6609382aFmt.Fl

def wv (t : Nat) : Rat := (fv t).getD 0
theorem fv_wv {t : Nat} {q : Rat} (h : fv t = some q) : fv t = some (wv t) ∧ wv t = q := by simp [wv, h]

/-- The middle's word. -/
def mdW (x y : Nat) : Nat := ((Ieee.double.add x y).bind fun s => Ieee.double.div s 4611686018427387904).getD 0
theorem mid_wide {x y : Nat} {a b : Rat} (hx : fv x = some a) (hy : fv y = some b) (ba : Bd a (16 / 10)) (bb : Bd b (16 / 10)) :
    ∃ s, Ieee.double.add x y = some s ∧ Ieee.double.div s 4611686018427387904 = some (mdW x y) ∧ fv (mdW x y) = some (wv (mdW x y)) ∧ Bd (wv (mdW x y) - (a + b) / 2) (25 / 10000000000000000) := by
  obtain ⟨s, e1, f1⟩ := Fx.add 2 (32 / 10) (5 / 10000000000000000) (Fx.lit hx ba) (Fx.lit hy bb) (by decide +kernel)
  obtain ⟨m, e2, f2⟩ := Fx.divc 1 (16 / 10) (25 / 10000000000000000) f1 fv_two (by decide +kernel)
  obtain ⟨q, v, d, _⟩ := f2
  have hm : mdW x y = m := by simp [mdW, e1, e2]
  rw [hm]
  obtain ⟨h1, h2⟩ := fv_wv v
  rw [h2] at h1 ⊢
  exact ⟨s, e1, e2, h1, d⟩

/-- No multiple of pi near either end of the day. -/
def Sep (η : Rat) : Prop := ∀ j : Int, (6 / 1000 ≤ (j : Rat) * (4 * Q4) - η ∨ 6 / 1000 ≤ -((j : Rat) * (4 * Q4) - η)) ∧ (6 / 1000 ≤ (j : Rat) * (4 * Q4) - η - Wr ∨ 6 / 1000 ≤ -((j : Rat) * (4 * Q4) - η - Wr))

/-- An end between the multiples N - 1 and N (counted from k). -/
def EndOK (η : Rat) (k : Int) (N e : Nat) : Prop := ∃ τ, fv e = some τ ∧ 0 ≤ τ ∧ τ ≤ 1 ∧ 6 / 1000 ≤ η + Wr * τ - ((k : Rat) + (N : Rat) - 1) * (4 * Q4) ∧ 6 / 1000 ≤ ((k : Rat) + (N : Rat)) * (4 * Q4) - (η + Wr * τ)

/-- A bracket about the culmination c, nearer to its middle than any other of the list. -/
def Brk (a b c : Nat) (n : Nat) (T : Nat → Nat) (m : Nat) : Prop := ∃ qa qb z, fv a = some qa ∧ fv b = some qb ∧ fv c = some z ∧ 1 / 2000 ≤ z - qa ∧ z - qa ≤ 1 / 4 ∧ 1 / 2000 ≤ qb - z ∧ qb - z ≤ 1 / 4 ∧ Bd (z - (qa + qb) / 2) (13 / 100) ∧ ∀ j, j < n → j ≠ m → (3 / 10 ≤ wv (T j) - (qa + qb) / 2 ∨ 3 / 10 ≤ -(wv (T j) - (qa + qb) / 2))

structure Ends (η : Rat) (k : Int) (n : Nat) (T : Nat → Nat) (L : Nat) (E N : Nat → Nat) : Prop where
  two : 2 ≤ L
  five : L ≤ 5
  each : ∀ i, i < L → EndOK η k (N i) (E i)
  step : ∀ i, i + 1 < L → (N (i + 1) = N i ∨ (N (i + 1) = N i + 1 ∧ Brk (E i) (E (i + 1)) (T (N i)) n T (N i)))
  last : N (L - 1) = n - 1
  first : N 0 ≤ 1

/-- The culminations' instants. -/
def At (η : Rat) (k : Int) (m : Nat) (t : Nat) : Prop := fv t = some (wv t) ∧ Bd (Wr * wv t - (((k : Rat) * (4 * Q4) - η) + (m : Rat) * (4 * Q4))) (2 / 10000000000000) ∧ Bd (wv t) (16 / 10)

/-- Which middles are ends: after j of them. -/
def incl (T : Nat → Nat) (i : Nat) : Bool := decide (0 < wv (mdW (T (i - 1)) (T i)) ∧ wv (mdW (T (i - 1)) (T i)) < 1)
def els (T : Nat → Nat) : Nat → List Nat
  | 0 => [0]
  | j + 1 => els T j ++ (if incl T (j + 1) then [mdW (T j) (T (j + 1))] else [])
theorem ends3 {η : Rat} {k : Int} {n : Nat} {T : Nat → Nat} {e0 e1 e2 N0 N1 N2 : Nat} (h0 : EndOK η k N0 e0) (h1 : EndOK η k N1 e1) (h2 : EndOK η k N2 e2) (s0 : N1 = N0 ∨ (N1 = N0 + 1 ∧ Brk e0 e1 (T N0) n T N0)) (s1 : N2 = N1 ∨ (N2 = N1 + 1 ∧ Brk e1 e2 (T N1) n T N1)) (hl : N2 = n - 1) (hf : N0 ≤ 1) :
    Ends η k n T 3 (fun i => [e0, e1, e2].getD i 0) (fun i => [N0, N1, N2].getD i 0) := by
  refine ⟨by omega, by omega, fun i hi => ?_, fun i hi => ?_, hl, hf⟩
  · match i, hi with
    | 0, _ => exact h0
    | 1, _ => exact h1
    | 2, _ => exact h2
    | (j + 3), h => exact absurd h (by omega)
  · match i, hi with
    | 0, _ => exact s0
    | 1, _ => exact s1
    | (j + 2), h => exact absurd h (by omega)

theorem ends4 {η : Rat} {k : Int} {n : Nat} {T : Nat → Nat} {e0 e1 e2 e3 N0 N1 N2 N3 : Nat} (h0 : EndOK η k N0 e0) (h1 : EndOK η k N1 e1) (h2 : EndOK η k N2 e2) (h3 : EndOK η k N3 e3) (s0 : N1 = N0 ∨ (N1 = N0 + 1 ∧ Brk e0 e1 (T N0) n T N0)) (s1 : N2 = N1 ∨ (N2 = N1 + 1 ∧ Brk e1 e2 (T N1) n T N1)) (s2 : N3 = N2 ∨ (N3 = N2 + 1 ∧ Brk e2 e3 (T N2) n T N2)) (hl : N3 = n - 1) (hf : N0 ≤ 1) :
    Ends η k n T 4 (fun i => [e0, e1, e2, e3].getD i 0) (fun i => [N0, N1, N2, N3].getD i 0) := by
  refine ⟨by omega, by omega, fun i hi => ?_, fun i hi => ?_, hl, hf⟩
  · match i, hi with
    | 0, _ => exact h0
    | 1, _ => exact h1
    | 2, _ => exact h2
    | 3, _ => exact h3
    | (j + 4), h => exact absurd h (by omega)
  · match i, hi with
    | 0, _ => exact s0
    | 1, _ => exact s1
    | 2, _ => exact s2
    | (j + 3), h => exact absurd h (by omega)

theorem ends5 {η : Rat} {k : Int} {n : Nat} {T : Nat → Nat} {e0 e1 e2 e3 e4 N0 N1 N2 N3 N4 : Nat} (h0 : EndOK η k N0 e0) (h1 : EndOK η k N1 e1) (h2 : EndOK η k N2 e2) (h3 : EndOK η k N3 e3) (h4 : EndOK η k N4 e4) (s0 : N1 = N0 ∨ (N1 = N0 + 1 ∧ Brk e0 e1 (T N0) n T N0)) (s1 : N2 = N1 ∨ (N2 = N1 + 1 ∧ Brk e1 e2 (T N1) n T N1)) (s2 : N3 = N2 ∨ (N3 = N2 + 1 ∧ Brk e2 e3 (T N2) n T N2)) (s3 : N4 = N3 ∨ (N4 = N3 + 1 ∧ Brk e3 e4 (T N3) n T N3)) (hl : N4 = n - 1) (hf : N0 ≤ 1) :
    Ends η k n T 5 (fun i => [e0, e1, e2, e3, e4].getD i 0) (fun i => [N0, N1, N2, N3, N4].getD i 0) := by
  refine ⟨by omega, by omega, fun i hi => ?_, fun i hi => ?_, hl, hf⟩
  · match i, hi with
    | 0, _ => exact h0
    | 1, _ => exact h1
    | 2, _ => exact h2
    | 3, _ => exact h3
    | 4, _ => exact h4
    | (j + 5), h => exact absurd h (by omega)
  · match i, hi with
    | 0, _ => exact s0
    | 1, _ => exact s1
    | 2, _ => exact s2
    | 3, _ => exact s3
    | (j + 4), h => exact absurd h (by omega)

theorem n34 {η : Rat} {k : Int} {n : Nat} {T : Nat → Nat} (hA : ∀ m, m < n → At η k m (T m)) (hg : 1 ≤ wv (T (n - 1))) (n1 : 1 ≤ n) (n4 : n ≤ 4) (hF : Bd ((k : Rat) * (4 * Q4) - η) (1571 / 1000)) : n = 3 ∨ n = 4 := by
  have q1 := Q4_lo; have q2 := Q4_hi
  have f1 := hF.1
  have h : n = 1 ∨ n = 2 ∨ n = 3 ∨ n = 4 := by omega
  rcases h with rfl | rfl | h | h
  · have a := (hA 0 (by omega)).2.1.1
    have c : ((0 : Nat) : Rat) = 0 := rfl
    simp only [Nat.sub_self] at hg
    rw [c] at a
    simp only [Wr] at a
    exfalso; grind
  · have a := (hA 1 (by omega)).2.1.1
    have c : ((1 : Nat) : Rat) = 1 := rfl
    have e : (2 : Nat) - 1 = 1 := rfl
    rw [e] at hg
    rw [c] at a
    simp only [Wr] at a
    exfalso; grind
  · exact Or.inl h
  · exact Or.inr h

theorem ends_ok {η : Rat} {k : Int} {n : Nat} {T : Nat → Nat} (hA : ∀ m, m < n → At η k m (T m)) (hl : ∀ m, m + 1 < n → wv (T m) < 1) (hg : 1 ≤ wv (T (n - 1))) (n1 : 1 ≤ n) (n4 : n ≤ 4) (hF : Bd ((k : Rat) * (4 * Q4) - η) (1571 / 1000)) (hS : Sep η) :
    ∃ N, Ends η k n T ((els T (n - 1)).length + 1) (fun i => (els T (n - 1) ++ [4607182418800017408]).getD i 0) N := by
  have q1 := Q4_lo; have q2 := Q4_hi
  have f1 := hF.1; have f2 := hF.2
  have c0 : ((0 : Nat) : Rat) = 0 := rfl
  have c1 : ((1 : Nat) : Rat) = 1 := rfl
  have c2 : ((2 : Nat) : Rat) = 2 := rfl
  have c3 : ((3 : Nat) : Rat) = 3 := rfl
  have W1 := Wr_lo; have W2 := Wr_hi
  have n34' := n34 hA hg n1 n4 hF
  have v1 : fv 4607182418800017408 = some 1 := fv_one
  have v0 : fv 0 = some 0 := fv_nought
  obtain ⟨p0, a0, b0⟩ := hA 0 (by omega)
  obtain ⟨p1, a1, b1⟩ := hA 1 (by omega)
  obtain ⟨p2, a2, b2⟩ := hA 2 (by omega)
  rw [c0] at a0; rw [c1] at a1; rw [c2] at a2
  have a01 := a0.1; have a02 := a0.2; have a11 := a1.1; have a12 := a1.2; have a21 := a2.1; have a22 := a2.2
  obtain ⟨_, _, _, x1, y1⟩ := mid_wide p0 p1 b0 b1
  obtain ⟨_, _, _, x2, y2⟩ := mid_wide p1 p2 b1 b2
  have y11 := y1.1; have y12 := y1.2; have y21 := y2.1; have y22 := y2.2
  have k1 : (((k + 1 : Int)) : Rat) = (k : Rat) + 1 := by rw [Rat.intCast_add]; rfl
  have k2 : (((k + 2 : Int)) : Rat) = (k : Rat) + 2 := by rw [Rat.intCast_add]; rfl
  have k3 : (((k + 3 : Int)) : Rat) = (k : Rat) + 3 := by rw [Rat.intCast_add]; rfl
  have s0 := (hS k).1
  have s2 := (hS (k + 2)).2
  have s3 := (hS (k + 3)).2
  rw [k2] at s2; rw [k3] at s3
  simp only [Wr] at a01 a02 a11 a12 a21 a22 s2 s3
  have l0 := hl 0 (by omega)
  have l1 := hl 1 (by omega)
  have b2' := b2
  have hA3 : n = 4 → At η k 3 (T 3) := fun h => hA 3 (by omega)
  have l2 : n = 4 → wv (T 2) < 1 := fun h => hl 2 (by omega)
  clear W1 W2 hF hS hA hl y1 y2 a0 a1 a2 b0 b1 b2
  rcases n34' with rfl | rfl
  · have hg' : 1 ≤ wv (T 2) := hg
    clear hg
    have s0' : 6 / 1000 ≤ (k : Rat) * (4 * Q4) - η := by grind
    have s2' : 6 / 1000 ≤ ((k : Rat) + 2) * (4 * Q4) - η - 7093605684409697 / 1125899906842624 := by grind
    clear s0 s2 s3
    have i1 : incl T 1 = true := by simp only [incl, decide_eq_true_eq]; exact ⟨by grind, by grind⟩
    have i2 : incl T 2 = true := by simp only [incl, decide_eq_true_eq]; exact ⟨by grind, by grind⟩
    refine ⟨fun i => [0, 1, 2, 2].getD i 0, ?_⟩
    have el : els T 2 = [0, (mdW (T 0) (T 1)), (mdW (T 1) (T 2))] := by simp [els, i1, i2]
    have en : (3 : Nat) - 1 = 2 := rfl
    rw [en, el]
    have h0 : EndOK η k 0 0 := ⟨0, v0, by grind, by grind, by rw [c0]; simp only [Wr]; grind, by rw [c0]; simp only [Wr]; grind⟩
    have h1 : EndOK η k 1 (mdW (T 0) (T 1)) := ⟨(wv (mdW (T 0) (T 1))), x1, by grind, by grind, by rw [c1]; simp only [Wr]; grind, by rw [c1]; simp only [Wr]; grind⟩
    have h2 : EndOK η k 2 (mdW (T 1) (T 2)) := ⟨(wv (mdW (T 1) (T 2))), x2, by grind, by grind, by rw [c2]; simp only [Wr]; grind, by rw [c2]; simp only [Wr]; grind⟩
    have h3 : EndOK η k 2 4607182418800017408 := ⟨1, v1, by grind, by grind, by rw [c2]; simp only [Wr]; grind, by rw [c2]; simp only [Wr]; grind⟩
    have s0 : (1 : Nat) = 0 ∨ ((1 : Nat) = 0 + 1 ∧ Brk 0 (mdW (T 0) (T 1)) (T 0) 3 T 0) := Or.inr ⟨rfl, ⟨0, (wv (mdW (T 0) (T 1))), wv (T 0), v0, x1, p0, by grind, by grind, by grind, by grind, ⟨by grind, by grind⟩, fun j hj hne => by
        match j, hj, hne with
        | 0, _, h => exact absurd rfl h
        | 1, _, h => grind
        | 2, _, h => grind
        | (j + 3), h, _ => exact absurd h (by omega)⟩⟩
    have s1 : (2 : Nat) = 1 ∨ ((2 : Nat) = 1 + 1 ∧ Brk (mdW (T 0) (T 1)) (mdW (T 1) (T 2)) (T 1) 3 T 1) := Or.inr ⟨rfl, ⟨(wv (mdW (T 0) (T 1))), (wv (mdW (T 1) (T 2))), wv (T 1), x1, x2, p1, by grind, by grind, by grind, by grind, ⟨by grind, by grind⟩, fun j hj hne => by
        match j, hj, hne with
        | 0, _, h => grind
        | 1, _, h => exact absurd rfl h
        | 2, _, h => grind
        | (j + 3), h, _ => exact absurd h (by omega)⟩⟩
    have s2 : (2 : Nat) = 2 ∨ ((2 : Nat) = 2 + 1 ∧ Brk (mdW (T 1) (T 2)) 4607182418800017408 (T 2) 3 T 2) := Or.inl rfl
    exact ends4 h0 h1 h2 h3 s0 s1 s2 rfl (by omega)
  · have hg' : 1 ≤ wv (T 3) := hg
    clear hg
    obtain ⟨p3, a3, b3⟩ := hA3 rfl
    rw [c3] at a3
    have a31 := a3.1; have a32 := a3.2
    simp only [Wr] at a31 a32
    obtain ⟨_, _, _, x3, y3⟩ := mid_wide p2 p3 b2' b3
    have y31 := y3.1; have y32 := y3.2
    have l2' : wv (T 2) < 1 := l2 rfl
    have s2' : 6 / 1000 ≤ -(((k : Rat) + 2) * (4 * Q4) - η - 7093605684409697 / 1125899906842624) := by grind
    have s3' : 6 / 1000 ≤ ((k : Rat) + 3) * (4 * Q4) - η - 7093605684409697 / 1125899906842624 := by grind
    clear s2 s3 y3 a3 b3 b2'
    rcases s0 with s0' | s0'
    · skip
      have i1 : incl T 1 = true := by simp only [incl, decide_eq_true_eq]; exact ⟨by grind, by grind⟩
      have i2 : incl T 2 = true := by simp only [incl, decide_eq_true_eq]; exact ⟨by grind, by grind⟩
      have i3 : incl T 3 = false := by simp only [incl, decide_eq_false_iff_not]; intro h; have h1 := h.1; have h2 := h.2; grind
      refine ⟨fun i => [0, 1, 2, 3].getD i 0, ?_⟩
      have el : els T 3 = [0, (mdW (T 0) (T 1)), (mdW (T 1) (T 2))] := by simp [els, i1, i2, i3]
      have en : (4 : Nat) - 1 = 3 := rfl
      rw [en, el]
      have h0 : EndOK η k 0 0 := ⟨0, v0, by grind, by grind, by rw [c0]; simp only [Wr]; grind, by rw [c0]; simp only [Wr]; grind⟩
      have h1 : EndOK η k 1 (mdW (T 0) (T 1)) := ⟨(wv (mdW (T 0) (T 1))), x1, by grind, by grind, by rw [c1]; simp only [Wr]; grind, by rw [c1]; simp only [Wr]; grind⟩
      have h2 : EndOK η k 2 (mdW (T 1) (T 2)) := ⟨(wv (mdW (T 1) (T 2))), x2, by grind, by grind, by rw [c2]; simp only [Wr]; grind, by rw [c2]; simp only [Wr]; grind⟩
      have h3 : EndOK η k 3 4607182418800017408 := ⟨1, v1, by grind, by grind, by rw [c3]; simp only [Wr]; grind, by rw [c3]; simp only [Wr]; grind⟩
      have s0 : (1 : Nat) = 0 ∨ ((1 : Nat) = 0 + 1 ∧ Brk 0 (mdW (T 0) (T 1)) (T 0) 4 T 0) := Or.inr ⟨rfl, ⟨0, (wv (mdW (T 0) (T 1))), wv (T 0), v0, x1, p0, by grind, by grind, by grind, by grind, ⟨by grind, by grind⟩, fun j hj hne => by
        match j, hj, hne with
        | 0, _, h => exact absurd rfl h
        | 1, _, h => grind
        | 2, _, h => grind
        | 3, _, h => grind
        | (j + 4), h, _ => exact absurd h (by omega)⟩⟩
      have s1 : (2 : Nat) = 1 ∨ ((2 : Nat) = 1 + 1 ∧ Brk (mdW (T 0) (T 1)) (mdW (T 1) (T 2)) (T 1) 4 T 1) := Or.inr ⟨rfl, ⟨(wv (mdW (T 0) (T 1))), (wv (mdW (T 1) (T 2))), wv (T 1), x1, x2, p1, by grind, by grind, by grind, by grind, ⟨by grind, by grind⟩, fun j hj hne => by
        match j, hj, hne with
        | 0, _, h => grind
        | 1, _, h => exact absurd rfl h
        | 2, _, h => grind
        | 3, _, h => grind
        | (j + 4), h, _ => exact absurd h (by omega)⟩⟩
      have s2 : (3 : Nat) = 2 ∨ ((3 : Nat) = 2 + 1 ∧ Brk (mdW (T 1) (T 2)) 4607182418800017408 (T 2) 4 T 2) := Or.inr ⟨rfl, ⟨(wv (mdW (T 1) (T 2))), 1, wv (T 2), x2, v1, p2, by grind, by grind, by grind, by grind, ⟨by grind, by grind⟩, fun j hj hne => by
        match j, hj, hne with
        | 0, _, h => grind
        | 1, _, h => grind
        | 2, _, h => exact absurd rfl h
        | 3, _, h => grind
        | (j + 4), h, _ => exact absurd h (by omega)⟩⟩
      exact ends4 h0 h1 h2 h3 s0 s1 s2 rfl (by omega)
    · by_cases j1 : 0 < wv (mdW (T 0) (T 1))
      · by_cases j3 : wv (mdW (T 2) (T 3)) < 1
        · skip
          have i1 : incl T 1 = true := by simp only [incl, decide_eq_true_eq]; exact ⟨by grind, by grind⟩
          have i2 : incl T 2 = true := by simp only [incl, decide_eq_true_eq]; exact ⟨by grind, by grind⟩
          have i3 : incl T 3 = true := by simp only [incl, decide_eq_true_eq]; exact ⟨by grind, by grind⟩
          refine ⟨fun i => [1, 1, 2, 3, 3].getD i 0, ?_⟩
          have el : els T 3 = [0, (mdW (T 0) (T 1)), (mdW (T 1) (T 2)), (mdW (T 2) (T 3))] := by simp [els, i1, i2, i3]
          have en : (4 : Nat) - 1 = 3 := rfl
          rw [en, el]
          have h0 : EndOK η k 1 0 := ⟨0, v0, by grind, by grind, by rw [c1]; simp only [Wr]; grind, by rw [c1]; simp only [Wr]; grind⟩
          have h1 : EndOK η k 1 (mdW (T 0) (T 1)) := ⟨(wv (mdW (T 0) (T 1))), x1, by grind, by grind, by rw [c1]; simp only [Wr]; grind, by rw [c1]; simp only [Wr]; grind⟩
          have h2 : EndOK η k 2 (mdW (T 1) (T 2)) := ⟨(wv (mdW (T 1) (T 2))), x2, by grind, by grind, by rw [c2]; simp only [Wr]; grind, by rw [c2]; simp only [Wr]; grind⟩
          have h3 : EndOK η k 3 (mdW (T 2) (T 3)) := ⟨(wv (mdW (T 2) (T 3))), x3, by grind, by grind, by rw [c3]; simp only [Wr]; grind, by rw [c3]; simp only [Wr]; grind⟩
          have h4 : EndOK η k 3 4607182418800017408 := ⟨1, v1, by grind, by grind, by rw [c3]; simp only [Wr]; grind, by rw [c3]; simp only [Wr]; grind⟩
          have s0 : (1 : Nat) = 1 ∨ ((1 : Nat) = 1 + 1 ∧ Brk 0 (mdW (T 0) (T 1)) (T 1) 4 T 1) := Or.inl rfl
          have s1 : (2 : Nat) = 1 ∨ ((2 : Nat) = 1 + 1 ∧ Brk (mdW (T 0) (T 1)) (mdW (T 1) (T 2)) (T 1) 4 T 1) := Or.inr ⟨rfl, ⟨(wv (mdW (T 0) (T 1))), (wv (mdW (T 1) (T 2))), wv (T 1), x1, x2, p1, by grind, by grind, by grind, by grind, ⟨by grind, by grind⟩, fun j hj hne => by
        match j, hj, hne with
        | 0, _, h => grind
        | 1, _, h => exact absurd rfl h
        | 2, _, h => grind
        | 3, _, h => grind
        | (j + 4), h, _ => exact absurd h (by omega)⟩⟩
          have s2 : (3 : Nat) = 2 ∨ ((3 : Nat) = 2 + 1 ∧ Brk (mdW (T 1) (T 2)) (mdW (T 2) (T 3)) (T 2) 4 T 2) := Or.inr ⟨rfl, ⟨(wv (mdW (T 1) (T 2))), (wv (mdW (T 2) (T 3))), wv (T 2), x2, x3, p2, by grind, by grind, by grind, by grind, ⟨by grind, by grind⟩, fun j hj hne => by
        match j, hj, hne with
        | 0, _, h => grind
        | 1, _, h => grind
        | 2, _, h => exact absurd rfl h
        | 3, _, h => grind
        | (j + 4), h, _ => exact absurd h (by omega)⟩⟩
          have s3 : (3 : Nat) = 3 ∨ ((3 : Nat) = 3 + 1 ∧ Brk (mdW (T 2) (T 3)) 4607182418800017408 (T 3) 4 T 3) := Or.inl rfl
          exact ends5 h0 h1 h2 h3 h4 s0 s1 s2 s3 rfl (by omega)
        · skip
          have i1 : incl T 1 = true := by simp only [incl, decide_eq_true_eq]; exact ⟨by grind, by grind⟩
          have i2 : incl T 2 = true := by simp only [incl, decide_eq_true_eq]; exact ⟨by grind, by grind⟩
          have i3 : incl T 3 = false := by simp only [incl, decide_eq_false_iff_not]; intro h; have h1 := h.1; have h2 := h.2; grind
          refine ⟨fun i => [1, 1, 2, 3].getD i 0, ?_⟩
          have el : els T 3 = [0, (mdW (T 0) (T 1)), (mdW (T 1) (T 2))] := by simp [els, i1, i2, i3]
          have en : (4 : Nat) - 1 = 3 := rfl
          rw [en, el]
          have h0 : EndOK η k 1 0 := ⟨0, v0, by grind, by grind, by rw [c1]; simp only [Wr]; grind, by rw [c1]; simp only [Wr]; grind⟩
          have h1 : EndOK η k 1 (mdW (T 0) (T 1)) := ⟨(wv (mdW (T 0) (T 1))), x1, by grind, by grind, by rw [c1]; simp only [Wr]; grind, by rw [c1]; simp only [Wr]; grind⟩
          have h2 : EndOK η k 2 (mdW (T 1) (T 2)) := ⟨(wv (mdW (T 1) (T 2))), x2, by grind, by grind, by rw [c2]; simp only [Wr]; grind, by rw [c2]; simp only [Wr]; grind⟩
          have h3 : EndOK η k 3 4607182418800017408 := ⟨1, v1, by grind, by grind, by rw [c3]; simp only [Wr]; grind, by rw [c3]; simp only [Wr]; grind⟩
          have s0 : (1 : Nat) = 1 ∨ ((1 : Nat) = 1 + 1 ∧ Brk 0 (mdW (T 0) (T 1)) (T 1) 4 T 1) := Or.inl rfl
          have s1 : (2 : Nat) = 1 ∨ ((2 : Nat) = 1 + 1 ∧ Brk (mdW (T 0) (T 1)) (mdW (T 1) (T 2)) (T 1) 4 T 1) := Or.inr ⟨rfl, ⟨(wv (mdW (T 0) (T 1))), (wv (mdW (T 1) (T 2))), wv (T 1), x1, x2, p1, by grind, by grind, by grind, by grind, ⟨by grind, by grind⟩, fun j hj hne => by
        match j, hj, hne with
        | 0, _, h => grind
        | 1, _, h => exact absurd rfl h
        | 2, _, h => grind
        | 3, _, h => grind
        | (j + 4), h, _ => exact absurd h (by omega)⟩⟩
          have s2 : (3 : Nat) = 2 ∨ ((3 : Nat) = 2 + 1 ∧ Brk (mdW (T 1) (T 2)) 4607182418800017408 (T 2) 4 T 2) := Or.inr ⟨rfl, ⟨(wv (mdW (T 1) (T 2))), 1, wv (T 2), x2, v1, p2, by grind, by grind, by grind, by grind, ⟨by grind, by grind⟩, fun j hj hne => by
        match j, hj, hne with
        | 0, _, h => grind
        | 1, _, h => grind
        | 2, _, h => exact absurd rfl h
        | 3, _, h => grind
        | (j + 4), h, _ => exact absurd h (by omega)⟩⟩
          exact ends4 h0 h1 h2 h3 s0 s1 s2 rfl (by omega)
      · by_cases j3 : wv (mdW (T 2) (T 3)) < 1
        · skip
          have i1 : incl T 1 = false := by simp only [incl, decide_eq_false_iff_not]; intro h; have h1 := h.1; have h2 := h.2; grind
          have i2 : incl T 2 = true := by simp only [incl, decide_eq_true_eq]; exact ⟨by grind, by grind⟩
          have i3 : incl T 3 = true := by simp only [incl, decide_eq_true_eq]; exact ⟨by grind, by grind⟩
          refine ⟨fun i => [1, 2, 3, 3].getD i 0, ?_⟩
          have el : els T 3 = [0, (mdW (T 1) (T 2)), (mdW (T 2) (T 3))] := by simp [els, i1, i2, i3]
          have en : (4 : Nat) - 1 = 3 := rfl
          rw [en, el]
          have h0 : EndOK η k 1 0 := ⟨0, v0, by grind, by grind, by rw [c1]; simp only [Wr]; grind, by rw [c1]; simp only [Wr]; grind⟩
          have h1 : EndOK η k 2 (mdW (T 1) (T 2)) := ⟨(wv (mdW (T 1) (T 2))), x2, by grind, by grind, by rw [c2]; simp only [Wr]; grind, by rw [c2]; simp only [Wr]; grind⟩
          have h2 : EndOK η k 3 (mdW (T 2) (T 3)) := ⟨(wv (mdW (T 2) (T 3))), x3, by grind, by grind, by rw [c3]; simp only [Wr]; grind, by rw [c3]; simp only [Wr]; grind⟩
          have h3 : EndOK η k 3 4607182418800017408 := ⟨1, v1, by grind, by grind, by rw [c3]; simp only [Wr]; grind, by rw [c3]; simp only [Wr]; grind⟩
          have s0 : (2 : Nat) = 1 ∨ ((2 : Nat) = 1 + 1 ∧ Brk 0 (mdW (T 1) (T 2)) (T 1) 4 T 1) := Or.inr ⟨rfl, ⟨0, (wv (mdW (T 1) (T 2))), wv (T 1), v0, x2, p1, by grind, by grind, by grind, by grind, ⟨by grind, by grind⟩, fun j hj hne => by
        match j, hj, hne with
        | 0, _, h => grind
        | 1, _, h => exact absurd rfl h
        | 2, _, h => grind
        | 3, _, h => grind
        | (j + 4), h, _ => exact absurd h (by omega)⟩⟩
          have s1 : (3 : Nat) = 2 ∨ ((3 : Nat) = 2 + 1 ∧ Brk (mdW (T 1) (T 2)) (mdW (T 2) (T 3)) (T 2) 4 T 2) := Or.inr ⟨rfl, ⟨(wv (mdW (T 1) (T 2))), (wv (mdW (T 2) (T 3))), wv (T 2), x2, x3, p2, by grind, by grind, by grind, by grind, ⟨by grind, by grind⟩, fun j hj hne => by
        match j, hj, hne with
        | 0, _, h => grind
        | 1, _, h => grind
        | 2, _, h => exact absurd rfl h
        | 3, _, h => grind
        | (j + 4), h, _ => exact absurd h (by omega)⟩⟩
          have s2 : (3 : Nat) = 3 ∨ ((3 : Nat) = 3 + 1 ∧ Brk (mdW (T 2) (T 3)) 4607182418800017408 (T 3) 4 T 3) := Or.inl rfl
          exact ends4 h0 h1 h2 h3 s0 s1 s2 rfl (by omega)
        · exfalso; grind
end Go.Proofs.Qxb6609382aFmt.Fl
