import Derived.Test.Qxb6609382aFmtFg
/-! One round of Go's float remainder by a turn, exactly. -/
namespace Go.Proofs.Qxb6609382aFmt.Fl

theorem write_pos_lt (m : Nat) (i : Int) : Ieee.double.write (.number false m i) < 9223372036854775808 := by
  show Ieee.double.nearest false m i < _
  unfold Ieee.Format.nearest
  have hinf : Ieee.double.infRung = 9218868437227405312 := by decide
  split
  · decide
  · simp only [hinf, Ieee.Format.word]
    simp
    omega

theorem sub_exact_pos {x y : Nat} {R Y : Nat} {i j : Int} (hx : Ieee.double.read x = .number false R i) (hy : Ieee.double.read y = .number false Y j) (hji : j ≤ i)
    (d : Nat) (hd : R * 2 ^ (i - j).toNat = Y + d) (hd2 : d < 9007199254740992) (h1 : -1074 ≤ j) (h2 : j ≤ 900) :
    ∃ r, Ieee.double.sub x y = some r ∧ fv r = some ((d : Rat) * p2 j) ∧ r < 9223372036854775808 := by
  have hmin : min i j = j := by omega
  have e : Ieee.signed false R (i - j).toNat + Ieee.signed (!false) Y (j - j).toNat = (d : Int) := by
    unfold Ieee.signed
    rw [Nat.shiftLeft_eq, hd, Int.sub_self]
    simp
    omega
  have hs : Ieee.double.sub x y = some (Ieee.double.write (.number false d j)) := by
    unfold Ieee.Format.sub
    rw [hx, hy]
    simp only [Ieee.Datum.opposite, Ieee.Datum.sum, hmin, e]
    simp
    have : decide ((d : Int) < 0) = false := by simp
    rw [this, Bool.and_false]
  refine ⟨_, hs, ?_, write_pos_lt d j⟩
  rw [write_exact _ _ _ hd2 h1 h2]
  simp [sgn]

/-- A positive word from 4 up, below 128: its two fields. -/
theorem fields {x : Nat} {q : Rat} (hx : fv x = some q) (hp : x < 9223372036854775808) (h4 : 4 ≤ q) (h128 : q < 128) :
    ∃ e f : Nat, x = e * 4503599627370496 + f ∧ f < 4503599627370496 ∧ 1025 ≤ e ∧ e ≤ 1029 ∧
      Ieee.double.read x = .number false (4503599627370496 + f) ((e : Int) - 1075) ∧ q = ((4503599627370496 + f : Nat) : Rat) * p2 ((e : Int) - 1075) := by
  obtain ⟨s, m, i, hr, hq⟩ := fv_some hx
  have hr2 := hr
  unfold Ieee.Format.read at hr
  have hsw : Ieee.double.signWeight = 9223372036854775808 := by decide
  have hbin : Ieee.double.binade = 4503599627370496 := by decide
  have hinf : Ieee.double.infRung = 9218868437227405312 := by decide
  have hlp : Ieee.double.leastPlace = -1074 := by decide
  have e1 : (x / 9223372036854775808 % 2 == 1) = false := by rw [Nat.div_eq_of_lt hp]; rfl
  have e2 : x % 9223372036854775808 = x := Nat.mod_eq_of_lt hp
  simp only [hsw, hbin, hinf, hlp, e1, e2] at hr
  split at hr
  · rename_i h
    cases hr
    exfalso
    have a1 : (x : Rat) ≤ ((4503599627370496 : Nat) : Rat) := Rat.natCast_le_natCast.2 (Nat.le_of_lt h)
    have a2 := Rat.mul_le_mul_of_nonneg_right a1 (Rat.le_of_lt (p2_pos (-1074)))
    have a3 : ((4503599627370496 : Nat) : Rat) * p2 (-1074) ≤ 1 := by decide +kernel
    simp only [sgn] at hq
    grind
  · split at hr
    · rename_i h h2
      cases hr
      refine ⟨x / 4503599627370496, x % 4503599627370496, by omega, by omega, ?_⟩
      have hi : (-1074 : Int) + ((x / 4503599627370496 - 1 : Nat) : Int) = ((x / 4503599627370496 : Nat) : Int) - 1075 := by omega
      rw [hi] at hr2 hq
      have hqe : q = ((4503599627370496 + x % 4503599627370496 : Nat) : Rat) * p2 (((x / 4503599627370496 : Nat) : Int) - 1075) := by
        rw [hq]; simp [sgn]
      have b1 : ((4503599627370496 : Nat) : Rat) ≤ ((4503599627370496 + x % 4503599627370496 : Nat) : Rat) := Rat.natCast_le_natCast.2 (by omega)
      have b2 : ((4503599627370496 + x % 4503599627370496 : Nat) : Rat) ≤ ((9007199254740992 : Nat) : Rat) := Rat.natCast_le_natCast.2 (by omega)
      have hpp := Rat.le_of_lt (p2_pos (((x / 4503599627370496 : Nat) : Int) - 1075))
      have c1 := Rat.mul_le_mul_of_nonneg_right b1 hpp
      have c2 := Rat.mul_le_mul_of_nonneg_right b2 hpp
      refine ⟨?_, ?_, hr2, hqe⟩
      · rcases Nat.lt_or_ge (x / 4503599627370496) 1025 with h | h
        · exfalso
          have d1 : p2 (((x / 4503599627370496 : Nat) : Int) - 1075) ≤ p2 (-51) := p2_le (by omega)
          have d2 := Rat.mul_le_mul_of_nonneg_left d1 (show (0 : Rat) ≤ ((9007199254740992 : Nat) : Rat) from Rat.natCast_nonneg)
          have d3 : ((9007199254740992 : Nat) : Rat) * p2 (-51) = 4 := by decide +kernel
          have b3 : ((4503599627370496 + x % 4503599627370496 : Nat) : Rat) < ((9007199254740992 : Nat) : Rat) := Rat.natCast_lt_natCast.2 (by omega)
          have c3 := Rat.mul_lt_mul_of_pos_right b3 (p2_pos (((x / 4503599627370496 : Nat) : Int) - 1075))
          grind
        · exact h
      · rcases Nat.lt_or_ge 1029 (x / 4503599627370496) with h | h
        · exfalso
          have d1 : p2 (-45) ≤ p2 (((x / 4503599627370496 : Nat) : Int) - 1075) := p2_le (by omega)
          have d2 := Rat.mul_le_mul_of_nonneg_left d1 (show (0 : Rat) ≤ ((4503599627370496 : Nat) : Rat) from Rat.natCast_nonneg)
          have d3 : ((4503599627370496 : Nat) : Rat) * p2 (-45) = 128 := by decide +kernel
          grind
        · exact h
    · split at hr <;> cases hr

/-- The turn's word, 2 pi, and what it is worth. -/
def TP : Rat := 884279719003555 / 140737488355328
theorem fv_TP : fv 4618760256179416344 = some TP := by decide +kernel
theorem read_TP (n : Nat) (h : n ≤ 5) : Ieee.double.read (4618760256179416344 + n * 4503599627370496) = .number false 7074237752028440 ((n : Int) - 50) := by
  have : n = 0 ∨ n = 1 ∨ n = 2 ∨ n = 3 ∨ n = 4 ∨ n = 5 := by omega
  rcases this with rfl | rfl | rfl | rfl | rfl | rfl <;> decide +kernel
theorem TP_lo : 6 < TP := by decide +kernel
theorem TP_hi : TP < 63 / 10 := by decide +kernel
theorem TP_val (n : Nat) : ((7074237752028440 : Nat) : Rat) * p2 ((n : Int) - 50) = TP * p2 (n : Int) := by
  rw [show ((n : Int) - 50) = (n : Int) + (-50) by omega, p2_add]
  have : ((7074237752028440 : Nat) : Rat) * p2 (-50) = TP := by decide +kernel
  rw [← this]; grind

/-- One round: the remainder loses a power of two of turns, exactly. fy: the turn's fraction field. -/
theorem mod_round {x : Nat} {q : Rat} (hx : fv x = some q) (hp : x < 9223372036854775808) (hq : TP ≤ q) (h128 : q < 128) :
    ∃ e f n r : Nat, x = e * 4503599627370496 + f ∧ f < 4503599627370496 ∧ 1025 ≤ e ∧ e ≤ 1029 ∧
      n ≤ 4 ∧ ((f < 2570638124657944 ∧ e = n + 1026) ∨ (2570638124657944 ≤ f ∧ e = n + 1025)) ∧
      Ieee.double.sub x (4618760256179416344 + n * 4503599627370496) = some r ∧ r < 9223372036854775808 ∧
      fv r = some (q - ((2 ^ n : Nat) : Rat) * TP) ∧ 0 ≤ q - ((2 ^ n : Nat) : Rat) * TP := by
  have hlo := TP_lo
  obtain ⟨e, f, hxe, hf, he1, he2, hr, hqv⟩ := fields hx hp (by grind) h128
  rcases Nat.lt_or_ge f 2570638124657944 with h | h
  · have he : 1026 ≤ e := by
      rcases Nat.lt_or_ge e 1026 with h' | h'
      · exfalso
        have hee : e = 1025 := by omega
        subst hee
        have b : ((4503599627370496 + f : Nat) : Rat) < ((7074237752028440 : Nat) : Rat) := Rat.natCast_lt_natCast.2 (by omega)
        have c := Rat.mul_lt_mul_of_pos_right b (p2_pos (((1025 : Nat) : Int) - 1075))
        have d : ((7074237752028440 : Nat) : Rat) * p2 (((1025 : Nat) : Int) - 1075) = TP := by decide +kernel
        grind
      · exact h'
    obtain ⟨n, rfl⟩ : ∃ n, e = n + 1026 := ⟨e - 1026, by omega⟩
    have hn : n ≤ 4 := by omega
    obtain ⟨r, h1, h2, h3⟩ := sub_exact_pos hr (read_TP n (by omega)) (by omega) (4503599627370496 + 2 * f - 2570638124657944)
      (by rw [show (((n + 1026 : Nat) : Int) - 1075 - ((n : Int) - 50)).toNat = 1 by omega]; omega) (by omega) (by omega) (by omega)
    have hv : ((4503599627370496 + 2 * f - 2570638124657944 : Nat) : Rat) * p2 ((n : Int) - 50) = q - ((2 ^ n : Nat) : Rat) * TP := by
      have e1 : ((4503599627370496 + 2 * f - 2570638124657944 : Nat) : Rat) + ((7074237752028440 : Nat) : Rat) = 2 * ((4503599627370496 + f : Nat) : Rat) := by
        rw [← Rat.natCast_add, show (4503599627370496 + 2 * f - 2570638124657944) + 7074237752028440 = 2 * (4503599627370496 + f) by omega, Rat.natCast_mul]
        rfl
      have e2 : p2 (((n + 1026 : Nat) : Int) - 1075) = 2 * p2 ((n : Int) - 50) := by
        rw [show ((n + 1026 : Nat) : Int) - 1075 = 1 + ((n : Int) - 50) by omega, p2_add]; congr 1
      have e3 := TP_val n
      rw [p2_nat] at e3
      rw [hqv, e2]
      grind
    refine ⟨_, f, n, r, hxe, hf, he1, he2, hn, Or.inl ⟨h, rfl⟩, h1, h3, by rw [h2, hv], ?_⟩
    rw [← hv]
    exact mul_nn Rat.natCast_nonneg (Rat.le_of_lt (p2_pos _))
  · obtain ⟨n, rfl⟩ : ∃ n, e = n + 1025 := ⟨e - 1025, by omega⟩
    have hn : n ≤ 4 := by omega
    obtain ⟨r, h1, h2, h3⟩ := sub_exact_pos hr (read_TP n (by omega)) (by omega) (f - 2570638124657944)
      (by rw [show (((n + 1025 : Nat) : Int) - 1075 - ((n : Int) - 50)).toNat = 0 by omega]; omega) (by omega) (by omega) (by omega)
    have hv : ((f - 2570638124657944 : Nat) : Rat) * p2 ((n : Int) - 50) = q - ((2 ^ n : Nat) : Rat) * TP := by
      have e1 : ((f - 2570638124657944 : Nat) : Rat) + ((7074237752028440 : Nat) : Rat) = ((4503599627370496 + f : Nat) : Rat) := by
        rw [← Rat.natCast_add, show (f - 2570638124657944) + 7074237752028440 = 4503599627370496 + f by omega]
      have e2 : p2 (((n + 1025 : Nat) : Int) - 1075) = p2 ((n : Int) - 50) := by
        rw [show ((n + 1025 : Nat) : Int) - 1075 = (n : Int) - 50 by omega]
      have e3 := TP_val n
      rw [p2_nat] at e3
      rw [hqv, e2]
      grind
    refine ⟨_, f, n, r, hxe, hf, he1, he2, hn, Or.inr ⟨h, rfl⟩, h1, h3, by rw [h2, hv], ?_⟩
    rw [← hv]
    exact mul_nn Rat.natCast_nonneg (Rat.le_of_lt (p2_pos _))

/-- The measure of the remainder's loop. -/
def flr (x : Nat) : Nat := match fv x with | some q => q.floor.toNat | none => 0
theorem flr_lt {x y : Nat} {a b : Rat} (hx : fv x = some a) (hy : fv y = some b) (h0 : 0 ≤ a) (h : a + 1 ≤ b) : flr x < flr y := by
  unfold flr
  rw [hx, hy]
  simp only []
  have h1 : (0 : Int) ≤ a.floor := Rat.le_floor_iff.2 (by simpa using h0)
  have h2 : a.floor + 1 ≤ b.floor := by
    apply Rat.le_floor_iff.2
    rw [Rat.intCast_add]
    have := Rat.floor_le a
    have e : ((1 : Int) : Rat) = 1 := rfl
    grind
  omega
end Go.Proofs.Qxb6609382aFmt.Fl
