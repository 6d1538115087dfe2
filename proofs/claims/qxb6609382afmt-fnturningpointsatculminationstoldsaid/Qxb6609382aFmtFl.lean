import Ieee.Arith
/-! Floats as rationals: what a word is worth, and how far each operation's word lies from the exact result. No Go in it. -/
namespace Go.Proofs.Qxb6609382aFmt.Fl

def p2 (i : Int) : Rat := (2 : Rat) ^ i
def sgn (s : Bool) : Rat := if s then -1 else 1
def dval : Ieee.Datum → Option Rat
  | .number s m i => some (sgn s * (m : Rat) * p2 i)
  | _ => none
/-- What a finite word is worth. -/
def fv (x : Nat) : Option Rat := if x < 18446744073709551616 then dval (Ieee.double.read x) else none

theorem p2_pos (i : Int) : 0 < p2 i := Rat.zpow_pos (by decide)
theorem p2_ne (i : Int) : p2 i ≠ 0 := fun h => by have := p2_pos i; rw [h] at this; exact absurd this (by decide)
theorem p2_add (i j : Int) : p2 (i + j) = p2 i * p2 j := Rat.zpow_add (by decide) i j
theorem p2_nat (n : Nat) : p2 (n : Int) = ((2 ^ n : Nat) : Rat) := by
  unfold p2
  rw [Rat.zpow_natCast]
  induction n with
  | zero => rfl
  | succ n ih => rw [Rat.pow_succ, ih, Nat.pow_succ, Rat.natCast_mul]; rfl
theorem p2_one_le (n : Nat) : 1 ≤ p2 (n : Int) := by
  rw [p2_nat]
  have : 1 ≤ 2 ^ n := Nat.one_le_two_pow
  have h := (Rat.natCast_le_natCast (a := 1) (b := 2 ^ n)).2 this
  exact h
theorem p2_le {i j : Int} (h : i ≤ j) : p2 i ≤ p2 j := by
  obtain ⟨n, hn⟩ := Int.eq_ofNat_of_zero_le (show 0 ≤ j - i by omega)
  have : j = i + n := by omega
  rw [this, p2_add]
  have h1 := Rat.mul_le_mul_of_nonneg_left (p2_one_le n) (Rat.le_of_lt (p2_pos i))
  rw [Rat.mul_one] at h1
  exact h1
theorem p2_lt_of {i j : Int} (h : p2 i < p2 j) : i < j := by
  rcases Int.lt_or_le i j with h' | h'
  · exact h'
  · have := p2_le h'
    grind

theorem cut_near (neg : Bool) (n drop : Nat) :
    2 * (Ieee.Toward.even.cut neg n drop * 2 ^ drop) ≤ 2 * n + 2 ^ drop ∧ 2 * n ≤ 2 * (Ieee.Toward.even.cut neg n drop * 2 ^ drop) + 2 ^ drop := by
  unfold Ieee.Toward.cut
  simp only []
  by_cases hd : drop ≤ n.log2 + 2
  · rw [Nat.min_eq_left hd, Nat.one_shiftLeft]
    have hg : 0 < 2 ^ drop := Nat.two_pow_pos _
    have hdm := Nat.div_add_mod n (2 ^ drop)
    have hlt := Nat.mod_lt n hg
    generalize n / 2 ^ drop = low at *
    generalize n % 2 ^ drop = rest at *
    generalize 2 ^ drop = g at *
    by_cases h1 : g < 2 * rest
    · simp [h1, Nat.add_mul]
      rw [Nat.mul_comm g low] at hdm
      omega
    · by_cases h2 : (g == 2 * rest && low % 2 == 1) = true
      · simp [h1, h2, Nat.add_mul]
        simp at h2
        rw [Nat.mul_comm g low] at hdm
        omega
      · simp [h1, h2]
        rw [Nat.mul_comm g low] at hdm
        omega
  · have hlog : n < 2 ^ (n.log2 + 1) := Nat.lt_log2_self
    rw [Nat.min_eq_right (by omega), Nat.one_shiftLeft]
    have hle : 2 ^ (n.log2 + 2) ≤ 2 ^ drop := Nat.pow_le_pow_right (by decide) (by omega)
    have hg2 : 2 ^ (n.log2 + 2) = 2 * 2 ^ (n.log2 + 1) := by rw [Nat.pow_succ]; omega
    rw [Nat.div_eq_of_lt (by omega), Nat.mod_eq_of_lt (by omega)]
    have h1 : ¬ (2 ^ (n.log2 + 2) < 2 * n) := by omega
    have h2 : (2 ^ (n.log2 + 2) == 2 * n) = false := by rw [beq_eq_false_iff_ne]; omega
    simp [h1, h2]
    omega

/-- A rung read back: kept units of the place L above the least. -/
theorem read_word (neg : Bool) (L kept : Nat) (hL : L ≤ 2044) (hk : kept ≤ 9007199254740992) (hn : 0 < L → 4503599627370496 ≤ kept) :
    fv (Ieee.double.word neg (min (L * 4503599627370496 + kept) 9218868437227405312)) = some (sgn neg * (kept : Rat) * p2 ((L : Int) - 1074)) := by
  have hmin : min (L * 4503599627370496 + kept) 9218868437227405312 = L * 4503599627370496 + kept := Nat.min_eq_left (by omega)
  rw [hmin]
  have hsw : Ieee.double.signWeight = 9223372036854775808 := by decide
  have hbin : Ieee.double.binade = 4503599627370496 := by decide
  have hinf : Ieee.double.infRung = 9218868437227405312 := by decide
  have hlp : Ieee.double.leastPlace = -1074 := by decide
  have hw1 : Ieee.double.word neg (L * 4503599627370496 + kept) / 9223372036854775808 % 2 = neg.toNat := by
    unfold Ieee.Format.word
    rw [hsw]
    cases neg
    · simp; omega
    · simp; omega
  have hw2 : Ieee.double.word neg (L * 4503599627370496 + kept) % 9223372036854775808 = L * 4503599627370496 + kept := by
    unfold Ieee.Format.word
    rw [hsw]
    cases neg
    · simp; omega
    · simp; omega
  have hlt : Ieee.double.word neg (L * 4503599627370496 + kept) < 18446744073709551616 := by
    unfold Ieee.Format.word
    rw [hsw]
    cases neg
    · simp; omega
    · simp; omega
  unfold fv
  rw [if_pos hlt]
  unfold Ieee.Format.read
  simp only [hsw, hbin, hinf, hlp, hw1, hw2]
  have hneg : (neg.toNat == 1) = neg := by cases neg <;> rfl
  rw [hneg]
  by_cases h0 : L * 4503599627370496 + kept < 4503599627370496
  · have hL0 : L = 0 := by omega
    subst hL0
    rw [if_pos h0]
    simp [dval]
  · rw [if_neg h0, if_pos (by omega)]
    by_cases h2 : kept = 9007199254740992
    · subst h2
      have e1 : (L * 4503599627370496 + 9007199254740992) % 4503599627370496 = 0 := by omega
      have e2 : (L * 4503599627370496 + 9007199254740992) / 4503599627370496 - 1 = L + 1 := by omega
      rw [e1, e2]
      simp only [dval, Option.some.injEq]
      have e3 : (-1074 + ((L + 1 : Nat) : Int)) = ((L : Int) - 1074) + 1 := by omega
      rw [e3, p2_add]
      have e4 : p2 1 = 2 := by decide +kernel
      rw [e4]
      have e5 : ((9007199254740992 : Nat) : Rat) = 2 * ((4503599627370496 + 0 : Nat) : Rat) := by decide +kernel
      rw [e5]
      grind
    · by_cases h3 : kept < 4503599627370496
      · omega
      · have e1 : (L * 4503599627370496 + kept) % 4503599627370496 = kept - 4503599627370496 := by omega
        have e2 : (L * 4503599627370496 + kept) / 4503599627370496 - 1 = L := by omega
        rw [e1, e2, show 4503599627370496 + (kept - 4503599627370496) = kept by omega]
        simp only [dval, Option.some.injEq]
        rw [show (-1074 + (L : Int)) = (L : Int) - 1074 by omega]

theorem nearest_near (neg : Bool) (mag : Nat) (place k : Int) (hk : (mag : Rat) * p2 place ≤ p2 k) (h1 : -1022 ≤ k) (h2 : k ≤ 1022) :
    ∃ q, fv (Ieee.double.nearest neg mag place) = some q ∧ q - sgn neg * (mag : Rat) * p2 place ≤ p2 (k - 53) ∧ sgn neg * (mag : Rat) * p2 place - q ≤ p2 (k - 53) := by
  by_cases h0 : mag = 0
  · subst h0
    refine ⟨0, ?_, ?_, ?_⟩
    · unfold Ieee.Format.nearest
      rw [if_pos rfl]
      cases neg <;> decide +kernel
    · have := p2_pos (k - 53); simp; grind
    · have := p2_pos (k - 53); simp; grind
  · have hl1 : 2 ^ mag.log2 ≤ mag := Nat.log2_self_le h0
    have hl2 : mag < 2 ^ (mag.log2 + 1) := Nat.lt_log2_self
    have hek : place + (mag.log2 : Int) ≤ k := by
      rcases Int.lt_or_le k (place + (mag.log2 : Int)) with h | h
      · exfalso
        have a1 : p2 (k + 1) ≤ p2 (place + (mag.log2 : Int)) := p2_le (by omega)
        have a2 : p2 (place + (mag.log2 : Int)) ≤ (mag : Rat) * p2 place := by
          rw [p2_add, p2_nat, Rat.mul_comm]
          exact Rat.mul_le_mul_of_nonneg_right (Rat.natCast_le_natCast.2 hl1) (Rat.le_of_lt (p2_pos _))
        have a3 : p2 (k + 1) = p2 k * 2 := by rw [p2_add]; congr 1
        have a4 := p2_pos k
        grind
      · exact h
    unfold Ieee.Format.nearest
    rw [if_neg h0]
    have hfb : ((Ieee.double.fractionBits : Nat) : Int) = 52 := by decide
    have hlp : Ieee.double.leastPlace = -1074 := by decide
    have hbin : Ieee.double.binade = 4503599627370496 := by decide
    have hinf : Ieee.double.infRung = 9218868437227405312 := by decide
    simp only [hfb, hlp, hbin, hinf]
    generalize hlast : max (place + (mag.log2 : Int) - 52) (-1074) = last
    have hlk : last ≤ k - 52 := by omega
    have hl0 : -1074 ≤ last := by omega
    obtain ⟨L, hL⟩ := Int.eq_ofNat_of_zero_le (show 0 ≤ last + 1074 by omega)
    have hLe : (last - -1074).toNat = L := by omega
    rw [hLe]
    generalize hA : (place - last).toNat = A
    generalize hB : (last - place).toNat = B
    have hAB : last - (B : Int) + (A : Int) = place := by omega
    rw [Nat.shiftLeft_eq]
    have hcut := cut_near neg (mag * 2 ^ A) B
    generalize Ieee.Toward.even.cut neg (mag * 2 ^ A) B = kept at hcut ⊢
    have hBpos : 0 < 2 ^ B := Nat.two_pow_pos _
    have hApos : 0 < 2 ^ A := Nat.two_pow_pos _
    have hkept : kept ≤ 9007199254740992 := by
      have b1 : mag * 2 ^ A < 2 ^ (mag.log2 + 1) * 2 ^ A := Nat.mul_lt_mul_of_pos_right hl2 hApos
      have b2 : 2 ^ (mag.log2 + 1) * 2 ^ A ≤ 9007199254740992 * 2 ^ B := by
        rw [← Nat.pow_add, show (9007199254740992 : Nat) = 2 ^ 53 by decide, ← Nat.pow_add]
        exact Nat.pow_le_pow_right (by decide) (by omega)
      have b3 : kept * 2 ^ B < 9007199254740993 * 2 ^ B := by
        rw [show (9007199254740993 : Nat) = 9007199254740992 + 1 by decide, Nat.add_mul]
        omega
      have := Nat.lt_of_mul_lt_mul_right b3
      omega
    have hnorm : 0 < L → 4503599627370496 ≤ kept := by
      intro hLp
      have b2 : 4503599627370496 * 2 ^ B ≤ 2 ^ mag.log2 * 2 ^ A := by
        rw [← Nat.pow_add, show (4503599627370496 : Nat) = 2 ^ 52 by decide, ← Nat.pow_add]
        exact Nat.pow_le_pow_right (by decide) (by omega)
      have b1 : 2 ^ mag.log2 * 2 ^ A ≤ mag * 2 ^ A := Nat.mul_le_mul_right _ hl1
      have b3 : 4503599627370495 * 2 ^ B < kept * 2 ^ B := by
        rw [show (4503599627370496 : Nat) = 4503599627370495 + 1 by decide, Nat.add_mul] at b2
        omega
      have := Nat.lt_of_mul_lt_mul_right b3
      omega
    refine ⟨_, read_word neg L kept (by omega) hkept hnorm, ?_⟩
    rw [show (L : Int) - 1074 = last by omega]
    -- the two sides over the unit c
    have hc := p2_pos (last - (B : Int))
    have e1 : (kept : Rat) * p2 last = ((kept * 2 ^ B : Nat) : Rat) * p2 (last - (B : Int)) := by
      rw [Rat.natCast_mul, ← p2_nat, Rat.mul_assoc, ← p2_add]
      congr 2
      omega
    have e2 : (mag : Rat) * p2 place = ((mag * 2 ^ A : Nat) : Rat) * p2 (last - (B : Int)) := by
      rw [Rat.natCast_mul, ← p2_nat, Rat.mul_assoc, ← p2_add]
      congr 2
      omega
    have e3 : ((2 ^ B : Nat) : Rat) * p2 (last - (B : Int)) = p2 last := by
      rw [← p2_nat, ← p2_add]
      congr 1
      omega
    have c1 : 2 * ((kept * 2 ^ B : Nat) : Rat) ≤ 2 * ((mag * 2 ^ A : Nat) : Rat) + ((2 ^ B : Nat) : Rat) := by
      have := (Rat.natCast_le_natCast (a := 2 * (kept * 2 ^ B)) (b := 2 * (mag * 2 ^ A) + 2 ^ B)).2 hcut.1
      rw [Rat.natCast_add, Rat.natCast_mul 2, Rat.natCast_mul 2] at this
      exact this
    have c2 : 2 * ((mag * 2 ^ A : Nat) : Rat) ≤ 2 * ((kept * 2 ^ B : Nat) : Rat) + ((2 ^ B : Nat) : Rat) := by
      have := (Rat.natCast_le_natCast (a := 2 * (mag * 2 ^ A)) (b := 2 * (kept * 2 ^ B) + 2 ^ B)).2 hcut.2
      rw [Rat.natCast_add, Rat.natCast_mul 2, Rat.natCast_mul 2] at this
      exact this
    have d1 := Rat.mul_le_mul_of_nonneg_right c1 (Rat.le_of_lt hc)
    have d2 := Rat.mul_le_mul_of_nonneg_right c2 (Rat.le_of_lt hc)
    have hu : p2 last ≤ 2 * p2 (k - 53) := by
      have := p2_le hlk
      have e : p2 (k - 52) = 2 * p2 (k - 53) := by rw [show k - 52 = 1 + (k - 53) by omega, p2_add]; congr 1
      grind
    rw [Rat.mul_assoc, Rat.mul_assoc, e1, e2]
    generalize ((kept * 2 ^ B : Nat) : Rat) = K at *
    generalize ((mag * 2 ^ A : Nat) : Rat) = M at *
    generalize ((2 ^ B : Nat) : Rat) = G at *
    generalize p2 (last - (B : Int)) = c at *
    cases neg
    · simp only [sgn]
      constructor <;> grind
    · simp only [sgn]
      constructor <;> grind
end Go.Proofs.Qxb6609382aFmt.Fl
