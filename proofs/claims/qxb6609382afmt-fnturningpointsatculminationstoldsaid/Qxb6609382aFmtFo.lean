import Derived.Test.Qxb6609382aFmtFl
namespace Go.Proofs.Qxb6609382aFmt.Fl

theorem fv_some {x : Nat} {a : Rat} (h : fv x = some a) : ∃ s m i, Ieee.double.read x = .number s m i ∧ a = sgn s * (m : Rat) * p2 i := by
  unfold fv at h
  split at h
  case isFalse => cases h
  cases hr : Ieee.double.read x with
  | number s m i => rw [hr] at h; simp only [dval, Option.some.injEq] at h; exact ⟨s, m, i, rfl, h.symm⟩
  | infinity s => rw [hr] at h; simp [dval] at h
  | nan s t => rw [hr] at h; simp [dval] at h

theorem fv_lt {x : Nat} {a : Rat} (h : fv x = some a) : x < 18446744073709551616 := by
  unfold fv at h
  split at h
  · assumption
  · cases h

/-- 'r is the word of a result that lies within e of v'. -/
def Near (r : Nat) (v e : Rat) : Prop := ∃ q, fv r = some q ∧ q - v ≤ e ∧ v - q ≤ e

theorem write_near (s : Bool) (m : Nat) (i k : Int) (v : Rat) (hv : v = sgn s * (m : Rat) * p2 i) (h1 : v ≤ p2 k) (h2 : -v ≤ p2 k) (k1 : -1022 ≤ k) (k2 : k ≤ 1022) :
    Near (Ieee.double.write (.number s m i)) v (p2 (k - 53)) := by
  have hb : (m : Rat) * p2 i ≤ p2 k := by
    cases s
    · simp only [sgn] at hv; grind
    · simp only [sgn] at hv; grind
  obtain ⟨q, hq, a, b⟩ := nearest_near s m i k hb k1 k2
  exact ⟨q, hq, by rw [hv]; exact a, by rw [hv]; exact b⟩

theorem mul_near {x y : Nat} {a b : Rat} (hx : fv x = some a) (hy : fv y = some b) (k : Int) (h1 : a * b ≤ p2 k) (h2 : -(a * b) ≤ p2 k) (k1 : -1022 ≤ k) (k2 : k ≤ 1022) :
    ∃ r, Ieee.double.mul x y = some r ∧ Near r (a * b) (p2 (k - 53)) := by
  obtain ⟨s, m, i, hrx, rfl⟩ := fv_some hx
  obtain ⟨t, n, j, hry, rfl⟩ := fv_some hy
  refine ⟨_, by unfold Ieee.Format.mul; rw [hrx, hry]; rfl, write_near _ _ _ k _ ?_ h1 h2 k1 k2⟩
  rw [Rat.natCast_mul, p2_add]
  cases s <;> cases t <;> simp only [sgn] <;> grind

theorem signed_val (s : Bool) (m up : Nat) (base i : Int) (h : (i - base).toNat = up) (hb : base ≤ i) : ((Ieee.signed s m up : Int) : Rat) * p2 base = sgn s * (m : Rat) * p2 i := by
  have e : p2 i = p2 (up : Int) * p2 base := by rw [← p2_add]; congr 1; omega
  rw [e, p2_nat]
  unfold Ieee.signed
  rw [Nat.shiftLeft_eq]
  cases s
  · simp only [sgn]
    simp [Rat.intCast_natCast]
    grind
  · simp only [sgn]
    simp [Rat.intCast_neg, Rat.intCast_natCast]
    grind

theorem sum_near {s t : Bool} {m n : Nat} {i j : Int} {a b : Rat} (ha : a = sgn s * (m : Rat) * p2 i) (hb : b = sgn t * (n : Rat) * p2 j) (k : Int) (h1 : a + b ≤ p2 k) (h2 : -(a + b) ≤ p2 k) (k1 : -1022 ≤ k) (k2 : k ≤ 1022) :
    ∃ d, (Ieee.Datum.number s m i).sum (.number t n j) = some d ∧ Near (Ieee.double.write d) (a + b) (p2 (k - 53)) := by
  refine ⟨_, rfl, write_near _ _ _ k _ ?_ h1 h2 k1 k2⟩
  have e1 := signed_val s m _ (min i j) i rfl (by omega)
  have e2 := signed_val t n _ (min i j) j rfl (by omega)
  rw [ha, hb, ← e1, ← e2, ← Rat.add_mul, ← Rat.intCast_add]
  generalize Ieee.signed s m (i - min i j).toNat + Ieee.signed t n (j - min i j).toNat = tot
  congr 1
  by_cases h0 : tot = 0
  · subst h0; simp
  · rw [if_neg h0]
    rcases Int.lt_or_le tot 0 with hl | hl
    · simp only [sgn, hl, decide_true, if_true]
      rw [show (tot : Int) = -((tot.natAbs : Nat) : Int) by omega]
      simp [Rat.intCast_neg, Rat.intCast_natCast]
      grind
    · have hd : decide (tot < 0) = false := by simp; omega
      simp only [sgn, hd]
      rw [show (tot : Int) = ((tot.natAbs : Nat) : Int) by omega]
      simp [Rat.intCast_natCast]

theorem add_near {x y : Nat} {a b : Rat} (hx : fv x = some a) (hy : fv y = some b) (k : Int) (h1 : a + b ≤ p2 k) (h2 : -(a + b) ≤ p2 k) (k1 : -1022 ≤ k) (k2 : k ≤ 1022) :
    ∃ r, Ieee.double.add x y = some r ∧ Near r (a + b) (p2 (k - 53)) := by
  obtain ⟨s, m, i, hrx, ha⟩ := fv_some hx
  obtain ⟨t, n, j, hry, hb⟩ := fv_some hy
  obtain ⟨d, hd, hn⟩ := sum_near ha hb k h1 h2 k1 k2
  exact ⟨_, by unfold Ieee.Format.add; rw [hrx, hry, hd]; rfl, hn⟩

theorem sub_near {x y : Nat} {a b : Rat} (hx : fv x = some a) (hy : fv y = some b) (k : Int) (h1 : a - b ≤ p2 k) (h2 : -(a - b) ≤ p2 k) (k1 : -1022 ≤ k) (k2 : k ≤ 1022) :
    ∃ r, Ieee.double.sub x y = some r ∧ Near r (a - b) (p2 (k - 53)) := by
  obtain ⟨s, m, i, hrx, ha⟩ := fv_some hx
  obtain ⟨t, n, j, hry, hb⟩ := fv_some hy
  have hb' : -b = sgn (!t) * (n : Rat) * p2 j := by rw [hb]; cases t <;> simp only [sgn] <;> simp <;> grind
  obtain ⟨d, hd, hn⟩ := sum_near ha hb' k (by grind) (by grind) k1 k2
  refine ⟨_, by unfold Ieee.Format.sub; rw [hrx, hry]; simp only [Ieee.Datum.opposite]; rw [hd]; rfl, ?_⟩
  rw [Rat.sub_eq_add_neg]
  exact hn

/-- How two finite words stand to each other. -/
theorem order_val {x y : Nat} {a b : Rat} (hx : fv x = some a) (hy : fv y = some b) :
    (a < b ∧ Ieee.double.order x y = some .lt) ∨ (a = b ∧ Ieee.double.order x y = some .eq) ∨ (b < a ∧ Ieee.double.order x y = some .gt) := by
  obtain ⟨s, m, i, hrx, ha⟩ := fv_some hx
  obtain ⟨t, n, j, hry, hb⟩ := fv_some hy
  have e1 := signed_val s m _ (min i j) i rfl (by omega)
  have e2 := signed_val t n _ (min i j) j rfl (by omega)
  have ho : Ieee.double.order x y = some (compare (Ieee.signed s m (i - min i j).toNat) (Ieee.signed t n (j - min i j).toNat)) := by
    unfold Ieee.Format.order; rw [hrx, hry]; rfl
  rw [ho, ha, hb, ← e1, ← e2]
  have hp := p2_pos (min i j)
  generalize Ieee.signed s m (i - min i j).toNat = A
  generalize Ieee.signed t n (j - min i j).toNat = B
  rcases Int.lt_trichotomy A B with h | h | h
  · left
    refine ⟨Rat.mul_lt_mul_of_pos_right (Rat.intCast_lt_intCast.2 h) hp, ?_⟩
    rw [Int.compare_eq_lt.2 h]
  · right; left
    subst h
    exact ⟨rfl, by rw [Int.compare_eq_eq.2 rfl]⟩
  · right; right
    refine ⟨Rat.mul_lt_mul_of_pos_right (Rat.intCast_lt_intCast.2 h) hp, ?_⟩
    rw [Int.compare_eq_gt.2 h]

/-- The quotient's datum: within a sticky half unit of the exact quotient. -/
theorem quo_val (m n L : Nat) (hn : n ≠ 0) :
    (2 * (((m <<< L) / n : Nat) : Rat) + (((m <<< L) % n != 0).toNat : Rat)) * (n : Rat) ≤ 2 * (m : Rat) * p2 (L : Int) + (n : Rat) ∧
    2 * (m : Rat) * p2 (L : Int) ≤ (2 * (((m <<< L) / n : Nat) : Rat) + (((m <<< L) % n != 0).toNat : Rat)) * (n : Rat) + (n : Rat) := by
  rw [Nat.shiftLeft_eq, p2_nat, Rat.mul_assoc, ← Rat.natCast_mul]
  have hdm := Nat.div_add_mod (m * 2 ^ L) n
  have hlt := Nat.mod_lt (m * 2 ^ L) (Nat.pos_of_ne_zero hn)
  generalize m * 2 ^ L = M at *
  generalize M / n = q at *
  generalize M % n = r at *
  have e : (M : Rat) = (n : Rat) * (q : Rat) + (r : Rat) := by rw [← hdm, Rat.natCast_add, Rat.natCast_mul]
  have hr : (r : Rat) ≤ (n : Rat) := Rat.natCast_le_natCast.2 (by omega)
  have hr0 : (0 : Rat) ≤ (r : Rat) := Rat.natCast_nonneg
  have hn0 : (0 : Rat) ≤ (n : Rat) := Rat.natCast_nonneg
  by_cases h0 : r = 0
  · subst h0
    simp only [bne_self_eq_false, Bool.toNat_false]
    constructor <;> grind
  · have : (r != 0) = true := by simpa using h0
    rw [this, Bool.toNat_true]
    constructor <;> grind

theorem log_lo (m : Nat) (h : m ≠ 0) : p2 (m.log2 : Int) ≤ (m : Rat) := by
  rw [p2_nat]; exact Rat.natCast_le_natCast.2 (Nat.log2_self_le h)
theorem log_hi (m : Nat) : (m : Rat) ≤ p2 (m.log2 + 1 : Int) := by
  rw [show ((m.log2 : Int) + 1) = ((m.log2 + 1 : Nat) : Int) by omega, p2_nat]
  exact Rat.natCast_le_natCast.2 (Nat.le_of_lt Nat.lt_log2_self)

theorem near_zero (s : Bool) (i : Int) (e : Rat) (he : 0 ≤ e) : Near (Ieee.double.write (.number s 0 i)) 0 e := by
  refine ⟨0, ?_, by grind, by grind⟩
  show fv (Ieee.double.nearest s 0 i) = some 0
  unfold Ieee.Format.nearest
  rw [if_pos rfl]
  cases s <;> decide +kernel

/-- The positive half of the quotient's law. -/
theorem quo_near (m n : Nat) (i j k : Int) (hm : m ≠ 0) (hn : n ≠ 0) (Q : Rat) (hQ : Q * ((n : Rat) * p2 j) = (m : Rat) * p2 i) (h1 : Q ≤ p2 k) :
    let V := ((2 * ((m <<< (54 + n.log2 - m.log2)) / n) + ((m <<< (54 + n.log2 - m.log2)) % n != 0).toNat : Nat) : Rat) * p2 (i - j - (54 + n.log2 - m.log2 : Nat) - 1)
    V - Q ≤ p2 (k - 53) ∧ Q - V ≤ p2 (k - 53) := by
  intro V
  have hL : m.log2 + (54 + n.log2 - m.log2) ≥ 54 + n.log2 := by omega
  generalize hLe : 54 + n.log2 - m.log2 = L at *
  have ⟨a1, a2⟩ := quo_val m n L hn
  have hnp : (0 : Rat) < (n : Rat) := Rat.natCast_pos.2 (Nat.pos_of_ne_zero hn)
  have hu := p2_pos (i - j - (L : Nat) - 1)
  have eV : V = (2 * (((m <<< L) / n : Nat) : Rat) + (((m <<< L) % n != 0).toNat : Rat)) * p2 (i - j - (L : Nat) - 1) := by
    show ((_ : Nat) : Rat) * _ = _
    rw [hLe, Rat.natCast_add, Rat.natCast_mul]; rfl
  generalize 2 * (((m <<< L) / n : Nat) : Rat) + (((m <<< L) % n != 0).toNat : Rat) = W at *
  -- everything over u = p2 (i-j-L-1)
  have eQ : Q * (n : Rat) = 2 * (m : Rat) * p2 (L : Int) * p2 (i - j - (L : Nat) - 1) := by
    have hj := p2_ne j
    have : Q * (n : Rat) * p2 j = 2 * (m : Rat) * p2 (L : Int) * p2 (i - j - (L : Nat) - 1) * p2 j := by
      have e1 : p2 i = 2 * (p2 (L : Int) * p2 (i - j - (L : Nat) - 1) * p2 j) := by
        rw [← p2_add, ← p2_add, show (2 : Rat) = p2 1 by decide +kernel, ← p2_add]; congr 1; omega
      grind
    have h2 := congrArg (· / p2 j) this
    simp only [Rat.mul_div_cancel hj] at h2
    exact h2
  have b1 := Rat.mul_le_mul_of_nonneg_right a1 (Rat.le_of_lt hu)
  have b2 := Rat.mul_le_mul_of_nonneg_right a2 (Rat.le_of_lt hu)
  have c1 : (V - Q) * (n : Rat) ≤ p2 (i - j - (L : Nat) - 1) * (n : Rat) := by rw [eV]; grind
  have c2 : (Q - V) * (n : Rat) ≤ p2 (i - j - (L : Nat) - 1) * (n : Rat) := by rw [eV]; grind
  have d1 := Rat.le_of_mul_le_mul_right c1 hnp
  have d2 := Rat.le_of_mul_le_mul_right c2 hnp
  -- u <= Q * 2^-54
  have hlo := log_lo m hm
  have hhi := log_hi n
  have hQlo : p2 (m.log2 : Int) * p2 i ≤ Q * (p2 (n.log2 + 1 : Int) * p2 j) := by
    have x1 := Rat.mul_le_mul_of_nonneg_right hlo (Rat.le_of_lt (p2_pos i))
    have hQ0 : 0 ≤ Q := by
      rcases Rat.le_total (a := 0) (b := Q) with h | h
      · exact h
      · exfalso
        have y1 : Q * ((n : Rat) * p2 j) ≤ 0 * ((n : Rat) * p2 j) := Rat.mul_le_mul_of_nonneg_right h (Rat.le_of_lt (Rat.mul_pos hnp (p2_pos j)))
        have y2 := Rat.mul_pos (p2_pos (m.log2 : Int)) (p2_pos i)
        grind
    have x2 := Rat.mul_le_mul_of_nonneg_right hhi (Rat.le_of_lt (p2_pos j))
    have x3 := Rat.mul_le_mul_of_nonneg_left x2 hQ0
    grind
  have hulo : p2 (i - j - (L : Nat) - 1) ≤ p2 (k - 54) := by
    have y1 := Rat.mul_le_mul_of_nonneg_right h1 (Rat.le_of_lt (Rat.mul_pos (p2_pos (n.log2 + 1 : Int)) (p2_pos j)))
    have y2 : p2 ((m.log2 : Int) + i) ≤ p2 (k + ((n.log2 + 1 : Int) + j)) := by
      rw [p2_add, p2_add k, p2_add]; grind
    apply p2_le
    rcases Int.lt_or_le (k + ((n.log2 + 1 : Int) + j)) ((m.log2 : Int) + i) with h | h
    · exfalso
      have z1 := p2_le (show k + ((n.log2 + 1 : Int) + j) + 1 ≤ (m.log2 : Int) + i by omega)
      have z2 : p2 (k + ((n.log2 + 1 : Int) + j) + 1) = 2 * p2 (k + ((n.log2 + 1 : Int) + j)) := by rw [p2_add, Rat.mul_comm]; congr 1
      have z3 := p2_pos (k + ((n.log2 + 1 : Int) + j))
      grind
    · omega
  have hfin := p2_le (show k - 54 ≤ k - 53 by omega)
  constructor <;> grind

theorem div_near {x y : Nat} {a b : Rat} (hx : fv x = some a) (hy : fv y = some b) (hb0 : b ≠ 0) (k : Int) (h1 : a / b ≤ p2 k) (h2 : -(a / b) ≤ p2 k) (k1 : -1000 ≤ k) (k2 : k ≤ 1000) :
    ∃ r, Ieee.double.div x y = some r ∧ Near r (a / b) (p2 (k - 51)) := by
  obtain ⟨s, m, i, hrx, ha⟩ := fv_some hx
  obtain ⟨t, n, j, hry, hb⟩ := fv_some hy
  have hn : n ≠ 0 := fun h => hb0 (by rw [hb, h]; simp)
  have hd : Ieee.double.div x y = some (Ieee.double.write (.number (s ^^ t) (2 * ((m <<< (54 + n.log2 - m.log2)) / n) + ((m <<< (54 + n.log2 - m.log2)) % n != 0).toNat) (i - j - (54 + n.log2 - m.log2 : Nat) - 1))) := by
    unfold Ieee.Format.div
    rw [hrx, hry]
    simp only [Ieee.Datum.quotient, if_neg hn]
    rfl
  refine ⟨_, hd, ?_⟩
  have hQb : a / b * b = a := Rat.div_mul_cancel hb0
  generalize a / b = Q at *
  by_cases hm : m = 0
  · subst hm
    have hQ0 : Q = 0 := by
      rcases Rat.mul_eq_zero.1 (show Q * b = 0 by rw [hQb, ha]; simp) with h | h
      · exact h
      · exact absurd h hb0
    rw [hQ0, Nat.zero_shiftLeft, Nat.zero_div, Nat.zero_mod]
    exact near_zero _ _ _ (Rat.le_of_lt (p2_pos _))
  · have hsQ : (sgn (s ^^ t) * Q) * ((n : Rat) * p2 j) = (m : Rat) * p2 i := by
      have : Q * (sgn t * (n : Rat) * p2 j) = sgn s * (m : Rat) * p2 i := by rw [← hb, ← ha]; exact hQb
      cases s <;> cases t <;> simp only [sgn] at * <;> simp at * <;> grind
    have hsk : sgn (s ^^ t) * Q ≤ p2 k := by cases s <;> cases t <;> simp only [sgn] <;> simp <;> grind
    have ⟨v1, v2⟩ := quo_near m n i j k hm hn _ hsQ hsk
    generalize hM : 2 * ((m <<< (54 + n.log2 - m.log2)) / n) + ((m <<< (54 + n.log2 - m.log2)) % n != 0).toNat = M at *
    generalize i - j - (54 + n.log2 - m.log2 : Nat) - 1 = I at *
    have hs2 : sgn (s ^^ t) * sgn (s ^^ t) = 1 := by cases s <;> cases t <;> simp only [sgn] <;> simp <;> grind
    have hk1 : p2 (k + 1) = 2 * p2 k := by rw [p2_add, Rat.mul_comm]; congr 1
    have hk53 := p2_le (show k - 53 ≤ k by omega)
    have hk52 : p2 (k - 52) = 2 * p2 (k - 53) := by rw [show k - 52 = 1 + (k - 53) by omega, p2_add]; congr 1
    have hk51 : p2 (k - 51) = 2 * p2 (k - 52) := by rw [show k - 51 = 1 + (k - 52) by omega, p2_add]; congr 1
    have hk52' : p2 (k + 1 - 53) = p2 (k - 52) := by congr 1; omega
    have hpk := p2_pos (k - 53)
    have hMI : (0 : Rat) ≤ (M : Rat) * p2 I := Rat.mul_nonneg Rat.natCast_nonneg (Rat.le_of_lt (p2_pos I))
    obtain ⟨q, hq, q1, q2⟩ := write_near (s ^^ t) M I (k + 1) _ rfl (by cases s <;> cases t <;> simp only [sgn] at * <;> simp at * <;> grind) (by cases s <;> cases t <;> simp only [sgn] at * <;> simp at * <;> grind) (by omega) (by omega)
    refine ⟨q, hq, ?_, ?_⟩
    · cases s <;> cases t <;> simp only [sgn] at * <;> simp at * <;> grind
    · cases s <;> cases t <;> simp only [sgn] at * <;> simp at * <;> grind
end Go.Proofs.Qxb6609382aFmt.Fl
