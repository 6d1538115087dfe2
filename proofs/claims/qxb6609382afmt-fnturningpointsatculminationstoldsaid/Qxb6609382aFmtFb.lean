import Derived.Test.Qxb6609382aFmtFa
import Derived.Laws.FloatArith
import GoSem.Op.Unary
/-! Float operations that are exact: small numbers, the sign, the absolute value, to integers and back. -/
namespace Go.Proofs.Qxb6609382aFmt.Fl

theorem nearest_exact (neg : Bool) (mag : Nat) (place : Int) (hm : mag < 9007199254740992) (h1 : -1074 ≤ place) (h2 : place ≤ 900) :
    fv (Ieee.double.nearest neg mag place) = some (sgn neg * (mag : Rat) * p2 place) := by
  by_cases h0 : mag = 0
  · subst h0
    unfold Ieee.Format.nearest
    rw [if_pos rfl]
    have : sgn neg * ((0 : Nat) : Rat) * p2 place = 0 := by simp
    rw [this]
    cases neg <;> decide +kernel
  · have hl1 : 2 ^ mag.log2 ≤ mag := Nat.log2_self_le h0
    have hl2 : mag < 2 ^ (mag.log2 + 1) := Nat.lt_log2_self
    have hlog : mag.log2 ≤ 52 := by
      have : 2 ^ mag.log2 < 2 ^ 53 := Nat.lt_of_le_of_lt hl1 hm
      have := (Nat.pow_lt_pow_iff_right (show 1 < 2 by decide)).1 this
      omega
    unfold Ieee.Format.nearest
    rw [if_neg h0]
    have hfb : ((Ieee.double.fractionBits : Nat) : Int) = 52 := by decide
    have hlp : Ieee.double.leastPlace = -1074 := by decide
    have hbin : Ieee.double.binade = 4503599627370496 := by decide
    have hinf : Ieee.double.infRung = 9218868437227405312 := by decide
    simp only [hfb, hlp, hbin, hinf]
    generalize hlast : max (place + (mag.log2 : Int) - 52) (-1074) = last
    have hl0 : -1074 ≤ last := by omega
    have hlp2 : last ≤ place := by omega
    obtain ⟨L, hL⟩ := Int.eq_ofNat_of_zero_le (show 0 ≤ last + 1074 by omega)
    have hLe : (last - -1074).toNat = L := by omega
    rw [hLe]
    generalize hA : (place - last).toNat = A
    have hB : (last - place).toNat = 0 := by omega
    rw [hB, Nat.shiftLeft_eq]
    have hcut := cut_near neg (mag * 2 ^ A) 0
    generalize Ieee.Toward.even.cut neg (mag * 2 ^ A) 0 = kept at hcut ⊢
    have hkm : kept = mag * 2 ^ A := by omega
    have hApos : 0 < 2 ^ A := Nat.two_pow_pos _
    have hkept : kept ≤ 9007199254740992 := by
      have b1 : mag * 2 ^ A < 2 ^ (mag.log2 + 1) * 2 ^ A := Nat.mul_lt_mul_of_pos_right hl2 hApos
      have b2 : 2 ^ (mag.log2 + 1) * 2 ^ A ≤ 2 ^ 53 := by
        rw [← Nat.pow_add]
        exact Nat.pow_le_pow_right (by decide) (by omega)
      omega
    have hnorm : 0 < L → 4503599627370496 ≤ kept := by
      intro hLp
      have b2 : 2 ^ 52 ≤ 2 ^ mag.log2 * 2 ^ A := by
        rw [← Nat.pow_add]
        exact Nat.pow_le_pow_right (by decide) (by omega)
      have b1 : 2 ^ mag.log2 * 2 ^ A ≤ mag * 2 ^ A := Nat.mul_le_mul_right _ hl1
      omega
    rw [read_word neg L kept (by omega) hkept hnorm, show (L : Int) - 1074 = last by omega, hkm, Rat.natCast_mul, ← p2_nat]
    have e : p2 place = p2 (A : Int) * p2 last := by rw [← p2_add]; congr 1; omega
    rw [e]
    congr 1
    grind

theorem write_exact (s : Bool) (m : Nat) (i : Int) (hm : m < 9007199254740992) (h1 : -1074 ≤ i) (h2 : i ≤ 900) :
    fv (Ieee.double.write (.number s m i)) = some (sgn s * (m : Rat) * p2 i) := nearest_exact s m i hm h1 h2

/-- A difference that the format holds. -/
theorem sub_exact {x y : Nat} {R Y : Nat} {i j : Int} (hx : Ieee.double.read x = .number false R i) (hy : Ieee.double.read y = .number false Y j) (hji : j ≤ i)
    (d : Nat) (hd : R * 2 ^ (i - j).toNat = Y + d) (hd2 : d < 9007199254740992) (h1 : -1074 ≤ j) (h2 : j ≤ 900) :
    ∃ r, Ieee.double.sub x y = some r ∧ fv r = some ((d : Rat) * p2 j) := by
  have hmin : min i j = j := by omega
  refine ⟨_, by unfold Ieee.Format.sub; rw [hx, hy]; simp only [Ieee.Datum.opposite, Ieee.Datum.sum]; rfl, ?_⟩
  simp only [hmin]
  have e : Ieee.signed false R (i - j).toNat + Ieee.signed (!false) Y (j - j).toNat = (d : Int) := by
    unfold Ieee.signed
    rw [Nat.shiftLeft_eq, hd, Int.sub_self]
    simp
    omega
  rw [e]
  rw [write_exact _ _ _ (by simpa using hd2) h1 h2]
  by_cases h0 : d = 0
  · subst h0; simp
  · have : decide ((d : Int) < 0) = false := by simp
    rw [if_neg (by omega), this]
    simp [sgn]

theorem neg_val {x : Nat} {a : Rat} (h : fv x = some a) : fv (Op.negFloat .f64 x) = some (-a) := by
  obtain ⟨s, m, i, hr, rfl⟩ := fv_some h
  have hb : Ieee.double.read (Op.negFloat .f64 x) = .number (!s) m i := by
    unfold Op.negFloat
    have hsw : Ieee.double.signWeight = 2 ^ 63 := by decide
    have e0 : (FloatKind.f64.format.exponentBits + FloatKind.f64.format.fractionBits) = 63 := by decide
    rw [e0]
    have e1 : ((x ^^^ 2 ^ 63) / 2 ^ 63 % 2 == 1) = !(x / 2 ^ 63 % 2 == 1) := by
      have := Nat.testBit_xor x (2 ^ 63) 63
      rw [Nat.testBit_eq_decide_div_mod_eq, Nat.testBit_eq_decide_div_mod_eq, Nat.testBit_two_pow_self] at this
      have hb : ∀ k : Nat, (k == 1) = decide (k = 1) := fun k => rfl
      rw [hb, hb, this, Bool.xor_true]
    have e2 : (x ^^^ 2 ^ 63) % 2 ^ 63 = x % 2 ^ 63 := by
      rw [Nat.xor_mod_two_pow, Nat.mod_self, Nat.xor_zero]
    unfold Ieee.Format.read at hr ⊢
    rw [hsw] at hr ⊢
    simp only [e1, e2]
    simp only [] at hr
    split
    · rename_i h1; rw [if_pos h1] at hr; cases hr; rfl
    · rename_i h1; rw [if_neg h1] at hr
      split
      · rename_i h2; rw [if_pos h2] at hr; cases hr; rfl
      · rename_i h2; rw [if_neg h2] at hr
        split at hr <;> cases hr
  have hlt : Op.negFloat .f64 x < 18446744073709551616 := by
    unfold Op.negFloat
    exact Nat.xor_lt_two_pow (n := 64) (fv_lt h) (by decide)
  unfold fv
  rw [if_pos hlt, hb]
  simp only [dval, Option.some.injEq]
  cases s <;> simp only [sgn] <;> simp <;> grind

def absW (x : Nat) : Nat := x % 9223372036854775808
theorem abs_val {x : Nat} {a : Rat} (h : fv x = some a) : (0 ≤ a ∧ fv (absW x) = some a) ∨ (a ≤ 0 ∧ fv (absW x) = some (-a)) := by
  obtain ⟨s, m, i, hr, rfl⟩ := fv_some h
  have hb : Ieee.double.read (absW x) = .number false m i := by
    unfold absW
    have hsw : Ieee.double.signWeight = 9223372036854775808 := by decide
    unfold Ieee.Format.read at hr ⊢
    rw [hsw] at hr ⊢
    have e1 : (x % 9223372036854775808 / 9223372036854775808 % 2 == 1) = false := by
      have : x % 9223372036854775808 / 9223372036854775808 = 0 := by omega
      rw [this]; rfl
    have e2 : x % 9223372036854775808 % 9223372036854775808 = x % 9223372036854775808 := by omega
    simp only [e1, e2]
    simp only [] at hr
    split
    · rename_i h1; rw [if_pos h1] at hr; cases hr; rfl
    · rename_i h1; rw [if_neg h1] at hr
      split
      · rename_i h2; rw [if_pos h2] at hr; cases hr; rfl
      · rename_i h2; rw [if_neg h2] at hr
        split at hr <;> cases hr
  have hnn : 0 ≤ (m : Rat) * p2 i := mul_nn Rat.natCast_nonneg (Rat.le_of_lt (p2_pos i))
  unfold fv
  rw [if_pos (show absW x < 18446744073709551616 by unfold absW; omega), hb]
  simp only [dval, Option.some.injEq]
  cases s
  · left; simp only [sgn]; constructor <;> grind
  · right; simp only [sgn]; constructor <;> grind

theorem ofInt_val (n : Nat) (h : n < 9007199254740992) : fv (floatOfInt .f64 (n : Int)) = some (n : Rat) := by
  have e : floatOfInt .f64 (n : Int) = Ieee.double.write (.number false n 0) := by
    unfold floatOfInt FloatKind.nearest
    have : decide ((n : Int) < 0) = false := by simp
    rw [this, Int.natAbs_natCast]
    rfl
  rw [e, write_exact _ _ _ h (by decide) (by decide)]
  have : p2 0 = 1 := by decide +kernel
  rw [this]; simp [sgn]
theorem ofInt_neg (n : Nat) (h0 : 0 < n) (h : n < 9007199254740992) : fv (floatOfInt .f64 (-(n : Int))) = some (-(n : Rat)) := by
  have e : floatOfInt .f64 (-(n : Int)) = Ieee.double.write (.number true n 0) := by
    unfold floatOfInt FloatKind.nearest
    have : decide (-(n : Int) < 0) = true := by simp; omega
    rw [this, Int.natAbs_neg, Int.natAbs_natCast]
    rfl
  rw [e, write_exact _ _ _ h (by decide) (by decide)]
  have : p2 0 = 1 := by decide +kernel
  rw [this]; simp [sgn]; grind

theorem cut_zero (neg : Bool) (n drop : Nat) : Ieee.Toward.zero.cut neg n drop = n / 2 ^ drop := by
  unfold Ieee.Toward.cut
  simp only [Nat.one_shiftLeft, Bool.toNat_false, Nat.add_zero]
  by_cases hd : drop ≤ n.log2 + 2
  · rw [Nat.min_eq_left hd]
  · have hlog : n < 2 ^ (n.log2 + 1) := Nat.lt_log2_self
    have h2 : 2 ^ (n.log2 + 1) ≤ 2 ^ (n.log2 + 2) := Nat.pow_le_pow_right (by decide) (by omega)
    have h3 : 2 ^ (n.log2 + 2) ≤ 2 ^ drop := Nat.pow_le_pow_right (by decide) (by omega)
    rw [Nat.min_eq_right (by omega), Nat.div_eq_of_lt (by omega), Nat.div_eq_of_lt (by omega)]

theorem toInt_val {x : Nat} {q : Rat} (h : fv x = some q) (h0 : 0 ≤ q) (h1 : q ≤ 1000000) :
    ∃ n : Nat, floatToIntVal .f64 x .u64 = some (n : Int) ∧ (n : Rat) ≤ q ∧ q < (n : Rat) + 1 := by
  obtain ⟨s, m, i, hr, hq⟩ := fv_some h
  have hm : s = true → m = 0 := by
    intro hs
    subst hs
    rcases Nat.eq_zero_or_pos m with h | h
    · exact h
    · exfalso
      have := Rat.mul_pos (Rat.natCast_pos.2 h) (p2_pos i)
      simp only [sgn] at hq
      grind
  have hs : Ieee.signed s ((m <<< i.toNat) / 2 ^ (-i).toNat) 0 = (((m * 2 ^ i.toNat) / 2 ^ (-i).toNat : Nat) : Int) := by
    unfold Ieee.signed
    rw [Nat.shiftLeft_eq, Nat.shiftLeft_eq]
    cases s
    · simp
    · rw [hm rfl]; simp
  have hn0 : sgn s * (m : Rat) * p2 i = (m : Rat) * p2 i := by
    cases s
    · simp [sgn]
    · rw [hm rfl]; simp
  rw [hn0] at hq
  have hfl : ((((m * 2 ^ i.toNat) / 2 ^ (-i).toNat : Nat)) : Rat) ≤ q ∧ q < ((((m * 2 ^ i.toNat) / 2 ^ (-i).toNat : Nat)) : Rat) + 1 := by
    have hg : 0 < 2 ^ (-i).toNat := Nat.two_pow_pos _
    have hdm := Nat.div_add_mod (m * 2 ^ i.toNat) (2 ^ (-i).toNat)
    have hlt := Nat.mod_lt (m * 2 ^ i.toNat) hg
    have e : q * ((2 ^ (-i).toNat : Nat) : Rat) = ((m * 2 ^ i.toNat : Nat) : Rat) := by
      rw [hq, Rat.natCast_mul, ← p2_nat, ← p2_nat, Rat.mul_assoc, ← p2_add]
      congr 2
      omega
    generalize m * 2 ^ i.toNat = M at *
    generalize 2 ^ (-i).toNat = G at *
    generalize M / G = k at *
    generalize M % G = r at *
    have hG : (0 : Rat) < (G : Rat) := Rat.natCast_pos.2 hg
    have e2 : (M : Rat) = (G : Rat) * (k : Rat) + (r : Rat) := by rw [← hdm, Rat.natCast_add, Rat.natCast_mul]
    have hr0 : (0 : Rat) ≤ (r : Rat) := Rat.natCast_nonneg
    have hrl : (r : Rat) < (G : Rat) := Rat.natCast_lt_natCast.2 hlt
    constructor
    · exact Rat.le_of_mul_le_mul_right (by grind) hG
    · exact Rat.lt_of_mul_lt_mul_right (by grind) (Rat.le_of_lt hG)
  refine ⟨_, ?_, hfl⟩
  have hb : ((m * 2 ^ i.toNat) / 2 ^ (-i).toNat : Nat) ≤ 1000000 := by
    have : ((((m * 2 ^ i.toNat) / 2 ^ (-i).toNat : Nat)) : Rat) ≤ ((1000000 : Nat) : Rat) := by
      have e : ((1000000 : Nat) : Rat) = 1000000 := by decide +kernel
      rw [e]; have := hfl.1; grind
    exact Rat.natCast_le_natCast.1 this
  have ht : (FloatKind.f64.decode x).toInt .zero = some ((((m * 2 ^ i.toNat) / 2 ^ (-i).toNat : Nat)) : Int) := by
    have : FloatKind.f64.decode x = .number s m i := hr
    rw [this]
    unfold Ieee.Datum.toInt Ieee.Datum.integral
    simp only [cut_zero, hs]
  unfold floatToIntVal
  rw [ht]
  simp only []
  rw [if_pos]
  constructor
  · have : IntKind.u64.min = 0 := by decide
    rw [this]; exact Int.natCast_nonneg _
  · have : IntKind.u64.max = 18446744073709551615 := by decide
    rw [this]; omega
end Go.Proofs.Qxb6609382aFmt.Fl
