import Derived.Test.Qxb6609382aFmtE
namespace Go.Proofs.Qxb6609382aFmt.W
open Go.RowKit Go.Proofs.Qxb6609382aFmt.Fl

def fltOf : Value → Nat
  | .float _ n => n
  | _ => 0

theorem ofFields (e f : Nat) (hf : f < 4503599627370496) (he1 : 1 ≤ e) (he2 : e ≤ 1100) : fv (e * 4503599627370496 + f) = some (((4503599627370496 + f : Nat) : Rat) * p2 ((e : Int) - 1075)) := by
  have h := read_word false (e - 1) (4503599627370496 + f) (by omega) (by omega) (by omega)
  have e1 : min ((e - 1) * 4503599627370496 + (4503599627370496 + f)) 9218868437227405312 = e * 4503599627370496 + f := by omega
  rw [e1] at h
  have e2 : ((e - 1 : Nat) : Int) - 1074 = (e : Int) - 1075 := by omega
  rw [e2] at h
  have e3 : Ieee.double.word false (e * 4503599627370496 + f) = e * 4503599627370496 + f := rfl
  rw [e3] at h
  rw [h]
  simp [sgn]

/-- How the two fractions stand, by their fields. -/
theorem frac_ord (f g : Nat) (hf : f < 4503599627370496) (hg : g < 4503599627370496) :
    (f < g → FloatKind.f64.format.order (4602678819172646912 + f) (4602678819172646912 + g) = some .lt) ∧ (g ≤ f → FloatKind.f64.format.order (4602678819172646912 + f) (4602678819172646912 + g) ≠ some .lt) := by
  have h1 := ofFields 1022 f hf (by decide) (by decide)
  have h2 := ofFields 1022 g hg (by decide) (by decide)
  have e0 : (1022 : Nat) * 4503599627370496 = 4602678819172646912 := by decide
  rw [e0] at h1 h2
  constructor
  · intro h
    exact ord_lt h1 h2 (Rat.mul_lt_mul_of_pos_right (Rat.natCast_lt_natCast.2 (by omega)) (p2_pos _))
  · intro h h'
    rcases Nat.lt_or_ge g f with h3 | h3
    · have := ord_gt h1 h2 (Rat.mul_lt_mul_of_pos_right (Rat.natCast_lt_natCast.2 (show 4503599627370496 + g < 4503599627370496 + f by omega)) (p2_pos (((1022 : Nat) : Int) - 1075)))
      rw [this] at h'; cases h'
    · have : f = g := by omega
      subst this
      have := ord_eq h1 h1 rfl
      rw [this] at h'; cases h'

/-- What the loop of the remainder keeps. -/
def ModInv (b : Rat) (v : Value) : Prop := ∃ (x : Nat) (q : Rat) (m : Nat), v = .float .f64 x ∧ fv x = some q ∧ x < 9223372036854775808 ∧ 0 ≤ q ∧ q = b - (m : Rat) * TP ∧ q ≤ 120

/-- The remainder of a by a turn. -/
def IsMod (a : Rat) (r : Ending) : Prop := ∃ (m : Nat) (r1 : Nat) (q : Rat), r = .returned (.float .f64 r1) ∧ fv r1 = some q ∧ ((0 ≤ a ∧ q = a - (m : Rat) * TP ∧ 0 ≤ q ∧ q < TP) ∨ (a < 0 ∧ q = a + (m : Rat) * TP ∧ q ≤ 0 ∧ -TP < q))

theorem ord_nlt {x y : Nat} {a b : Rat} (hx : fv x = some a) (hy : fv y = some b) (h : b ≤ a) : FloatKind.f64.format.order x y ≠ some .lt := by
  intro h'
  rcases order_val hx hy with ⟨h1, _⟩ | ⟨_, h1⟩ | ⟨_, h1⟩
  · grind
  · have h2 : FloatKind.f64.format.order x y = some .eq := h1
    rw [h2] at h'; cases h'
  · have h2 : FloatKind.f64.format.order x y = some .gt := h1
    rw [h2] at h'; cases h'
theorem ord_nltB {x y : Nat} {a b : Rat} (hx : fv x = some a) (hy : fv y = some b) (h : b ≤ a) : (FloatKind.f64.format.order x y == some .lt) = false := by
  have := ord_nlt hx hy h
  simpa using this
theorem ord_ge {x y : Nat} {a b : Rat} (hx : fv x = some a) (hy : fv y = some b) (h : b ≤ a) : (FloatKind.f64.format.order x y == some .gt || FloatKind.f64.format.order x y == some .eq) = true := by
  rcases order_val hx hy with ⟨h1, _⟩ | ⟨_, h1⟩ | ⟨_, h1⟩
  · exfalso; grind
  · have h2 : FloatKind.f64.format.order x y = some .eq := h1
    rw [h2]; rfl
  · have h2 : FloatKind.f64.format.order x y = some .gt := h1
    rw [h2]; rfl

set_option maxHeartbeats 1000000 in
theorem modl_any (x Y : Nat) (hY : 4618760256179416344 = Y) (a b : Rat) (hx : fv x = some a) (ha : Bd a 120) (x0 : Nat) (hx0 : fv x0 = some b) (hp0 : x0 < 9223372036854775808) (hb0 : 0 ≤ b) (hb1 : b ≤ 120) (hab : (0 ≤ a ∧ x0 = x ∧ b = a) ∨ (a < 0 ∧ Op.negFloat .f64 x = x0 ∧ b = -a)) (w : World) :
    Calls Tryf.prog 39 #[.float .f64 x, .float .f64 Y] w fun r w' => IsMod a r ∧ w' = w := by
  have vY : fv Y = some TP := by rw [← hY]; exact fv_TP
  have aY : absW Y = Y := by subst hY; decide
  have lY : Y < 18446744073709551616 := fv_lt vY
  have hz := ord_gt vY fv_zero (by decide +kernel)
  have hFY := frexp_any Y 1025 2570638124657944 (4602678819172646912 + 2570638124657944) TP vY (by rw [← hY]; decide) (by decide +kernel) (by decide +kernel) (by omega) (by decide) (by decide) (by decide) rfl
  have hLd := ldexp_any Y hY
  have hng := runNeg
  generalize hGY : 4602678819172646912 + 2570638124657944 = GY at hFY
  have h3 : ((1025 : Nat) : Int) - 1022 = 3 := by decide
  rw [h3] at hFY
  rcases hab with ⟨hs, he, hb⟩ | ⟨hs, he, hb⟩
  · skip
    subst he
    have hsx := ord_nltB hx fv_zero hs
    have hstart : Hid (ModInv b (.float .f64 x0)) := ⟨x0, b, 0, rfl, hx0, hp0, hb0, by simp; grind, hb1⟩
    clear hY hx0 hp0
    go_enter Tryf.func39, Tryf.ntmps39
    go_wp2_with (first | (refine (isNaN_any x0 a hx _).mono ?_; rintro e w' ⟨rfl, rfl⟩) | (refine (isNaN_any Y TP vY _).mono ?_; rintro e w' ⟨rfl, rfl⟩) | (refine (isInf_any x0 a hx (ha.mono (by decide +kernel)) _).mono ?_; rintro e w' ⟨rfl, rfl⟩) | (refine (abs_any Y lY _).mono ?_; rintro e w' ⟨rfl, rfl⟩; rw [aY]) | (refine (hFY _).mono ?_; rintro e w' ⟨rfl, rfl⟩))
    go_loop [7, 8, 9] (fun r _ _ => ModInv b r) (fun r _ _ => flr (fltOf r))
    case atStart => exact hstart.out
    case round =>
      obtain ⟨xr, q, m, rfl, hq, hpq, hq0, hqm, hq1⟩ := hrel
      by_cases hge : TP ≤ q
      · have hgeB := ord_ge hq vY hge
        have htl := TP_lo
        obtain ⟨e, f, n, r, hxe, hf, he1, he2, hn, hcase, hsub, hr, hfr, hr0⟩ := mod_round hq hpq hge (by grind)
        have hFx := frexp_any xr e f (4602678819172646912 + f) q hq hpq (by grind) (by grind) hxe hf he1 he2 rfl
        have hfo := frac_ord f 2570638124657944 hf (by decide)
        rw [hGY] at hfo
        have h2n : (1 : Rat) ≤ ((2 ^ n : Nat) : Rat) := Rat.natCast_le_natCast.2 (Nat.one_le_two_pow (n := n))
        have htm := Rat.mul_le_mul_of_nonneg_right h2n (show 0 ≤ TP by grind)
        have hrel' : Hid (ModInv b (.float .f64 r)) := ⟨r, _, m + 2 ^ n, rfl, hfr, hr, hr0, by rw [hqm, Rat.natCast_add]; grind, by grind⟩
        have hmeas : Hid (flr (fltOf (.float .f64 r)) < flr (fltOf (.float .f64 xr))) := flr_lt hfr hq hr0 (by grind)
        have fsub := runSub hsub
        generalize hZ : 4618760256179416344 + n * 4503599627370496 = Z at fsub
        have hLd' : ∀ i : Int, i = (n : Int) → ∀ w, Calls Tryf.prog 45 #[.float .f64 Y, .int .i64 i] w fun r w' => r = .returned (.float .f64 Z) ∧ w' = w := by
          intro i hi w
          subst hi
          exact hLd n Z hn hZ w
        generalize 4602678819172646912 + f = GX at hFx hfo
        rcases hcase with ⟨hlt, hen⟩ | ⟨hlt, hen⟩
        · have hord := hfo.1 hlt
          have hee : (e : Int) - 1022 = (n : Int) + 4 := by omega
          rw [hee] at hFx
          clear hxe hf he1 he2 hlt hen hee hZ hfo hLd hsub hq hpq hr hfr hqm hge hr0
          go_wp2_with (first | (refine (hFx _).mono ?_; rintro e w' ⟨rfl, rfl⟩) | (refine (hLd' _ (by omega) _).mono ?_; rintro e w' ⟨rfl, rfl⟩))
          go_round
          case rel => exact hrel'.out
          case measure => exact hmeas.out
        · have hord : (FloatKind.f64.format.order GX GY == some .lt) = false := by have := hfo.2 hlt; simpa using this
          have hee : (e : Int) - 1022 = (n : Int) + 3 := by omega
          rw [hee] at hFx
          clear hxe hf he1 he2 hlt hen hee hZ hfo hLd hsub hq hpq hr hfr hqm hge hr0
          go_wp2_with (first | (refine (hFx _).mono ?_; rintro e w' ⟨rfl, rfl⟩) | (refine (hLd' _ (by omega) _).mono ?_; rintro e w' ⟨rfl, rfl⟩))
          go_round
          case rel => exact hrel'.out
          case measure => exact hmeas.out
      · have hlt := ord_lt hq vY (by grind)
        go_wp2_with fail
        go_ret
        exact ⟨⟨m, xr, q, rfl, hq, Or.inl ⟨hs, by rw [hqm, hb], hq0, by grind⟩⟩, rfl⟩
  · skip
    have hsx := ord_lt hx fv_zero hs
    have hstart : Hid (ModInv b (.float .f64 (Op.negFloat .f64 x))) := ⟨x0, b, 0, by rw [he], hx0, hp0, hb0, by simp; grind, hb1⟩
    clear hY hx0 hp0 he
    go_enter Tryf.func39, Tryf.ntmps39
    go_wp2_with (first | (refine (isNaN_any x a hx _).mono ?_; rintro e w' ⟨rfl, rfl⟩) | (refine (isNaN_any Y TP vY _).mono ?_; rintro e w' ⟨rfl, rfl⟩) | (refine (isInf_any x a hx (ha.mono (by decide +kernel)) _).mono ?_; rintro e w' ⟨rfl, rfl⟩) | (refine (abs_any Y lY _).mono ?_; rintro e w' ⟨rfl, rfl⟩; rw [aY]) | (refine (hFY _).mono ?_; rintro e w' ⟨rfl, rfl⟩))
    go_loop [7, 8, 9] (fun r _ _ => ModInv b r) (fun r _ _ => flr (fltOf r))
    case atStart => exact hstart.out
    case round =>
      obtain ⟨xr, q, m, rfl, hq, hpq, hq0, hqm, hq1⟩ := hrel
      by_cases hge : TP ≤ q
      · have hgeB := ord_ge hq vY hge
        have htl := TP_lo
        obtain ⟨e, f, n, r, hxe, hf, he1, he2, hn, hcase, hsub, hr, hfr, hr0⟩ := mod_round hq hpq hge (by grind)
        have hFx := frexp_any xr e f (4602678819172646912 + f) q hq hpq (by grind) (by grind) hxe hf he1 he2 rfl
        have hfo := frac_ord f 2570638124657944 hf (by decide)
        rw [hGY] at hfo
        have h2n : (1 : Rat) ≤ ((2 ^ n : Nat) : Rat) := Rat.natCast_le_natCast.2 (Nat.one_le_two_pow (n := n))
        have htm := Rat.mul_le_mul_of_nonneg_right h2n (show 0 ≤ TP by grind)
        have hrel' : Hid (ModInv b (.float .f64 r)) := ⟨r, _, m + 2 ^ n, rfl, hfr, hr, hr0, by rw [hqm, Rat.natCast_add]; grind, by grind⟩
        have hmeas : Hid (flr (fltOf (.float .f64 r)) < flr (fltOf (.float .f64 xr))) := flr_lt hfr hq hr0 (by grind)
        have fsub := runSub hsub
        generalize hZ : 4618760256179416344 + n * 4503599627370496 = Z at fsub
        have hLd' : ∀ i : Int, i = (n : Int) → ∀ w, Calls Tryf.prog 45 #[.float .f64 Y, .int .i64 i] w fun r w' => r = .returned (.float .f64 Z) ∧ w' = w := by
          intro i hi w
          subst hi
          exact hLd n Z hn hZ w
        generalize 4602678819172646912 + f = GX at hFx hfo
        rcases hcase with ⟨hlt, hen⟩ | ⟨hlt, hen⟩
        · have hord := hfo.1 hlt
          have hee : (e : Int) - 1022 = (n : Int) + 4 := by omega
          rw [hee] at hFx
          clear hxe hf he1 he2 hlt hen hee hZ hfo hLd hsub hq hpq hr hfr hqm hge hr0
          go_wp2_with (first | (refine (hFx _).mono ?_; rintro e w' ⟨rfl, rfl⟩) | (refine (hLd' _ (by omega) _).mono ?_; rintro e w' ⟨rfl, rfl⟩))
          go_round
          case rel => exact hrel'.out
          case measure => exact hmeas.out
        · have hord : (FloatKind.f64.format.order GX GY == some .lt) = false := by have := hfo.2 hlt; simpa using this
          have hee : (e : Int) - 1022 = (n : Int) + 3 := by omega
          rw [hee] at hFx
          clear hxe hf he1 he2 hlt hen hee hZ hfo hLd hsub hq hpq hr hfr hqm hge hr0
          go_wp2_with (first | (refine (hFx _).mono ?_; rintro e w' ⟨rfl, rfl⟩) | (refine (hLd' _ (by omega) _).mono ?_; rintro e w' ⟨rfl, rfl⟩))
          go_round
          case rel => exact hrel'.out
          case measure => exact hmeas.out
      · have hlt := ord_lt hq vY (by grind)
        go_wp2_with fail
        go_ret
        exact ⟨⟨m, _, -q, rfl, neg_val hq, Or.inr ⟨hs, by rw [hqm, hb]; grind, by grind, by grind⟩⟩, rfl⟩
theorem neg_pos {x : Nat} {a : Rat} (hx : fv x = some a) (h : a < 0) : Op.negFloat .f64 x < 9223372036854775808 := by
  have hlt := fv_lt hx
  obtain ⟨s, m, i, hr, ha⟩ := fv_some hx
  have hs : s = true := by
    cases s
    · exfalso
      have := mul_nn (show (0 : Rat) ≤ (m : Rat) from Rat.natCast_nonneg) (Rat.le_of_lt (p2_pos i))
      simp only [sgn] at ha
      grind
    · rfl
  subst hs
  have hbit : x / 9223372036854775808 % 2 = 1 := by
    unfold Ieee.Format.read at hr
    have hsw : Ieee.double.signWeight = 9223372036854775808 := by decide
    rw [hsw] at hr
    simp only [] at hr
    have key : (x / 9223372036854775808 % 2 == 1) = true := by
      split at hr
      · simp only [Ieee.Datum.number.injEq] at hr; exact hr.1
      · split at hr
        · simp only [Ieee.Datum.number.injEq] at hr; exact hr.1
        · split at hr <;> cases hr
    simpa using key
  unfold Op.negFloat
  show x ^^^ 2 ^ 63 < 2 ^ 63
  apply Nat.lt_pow_two_of_testBit
  intro i hi
  rw [Nat.testBit_xor]
  by_cases h63 : i = 63
  · subst h63
    have : x.testBit 63 = true := by
      rw [Nat.testBit_eq_decide_div_mod_eq]
      simpa using hbit
    rw [this, Nat.testBit_two_pow_self]; rfl
  · rw [Nat.testBit_two_pow_of_ne (fun h' => h63 h'.symm), Nat.testBit_lt_two_pow (Nat.lt_of_lt_of_le hlt (show 18446744073709551616 ≤ 2 ^ i from by
      have : 2 ^ 64 ≤ 2 ^ i := Nat.pow_le_pow_right (by decide) (by omega)
      omega))]
    rfl

set_option maxHeartbeats 1000000 in
/-- The negative zero. -/
theorem modl_zero (x Y : Nat) (hY : 4618760256179416344 = Y) (a : Rat) (hx : fv x = some a) (h0 : 0 ≤ a) (hp : 9223372036854775808 ≤ x) (w : World) :
    Calls Tryf.prog 39 #[.float .f64 x, .float .f64 Y] w fun r w' => IsMod a r ∧ w' = w := by
  have ha0 : a = 0 := by
    have hlt := fv_lt hx
    obtain ⟨s, m, i, hr, ha⟩ := fv_some hx
    have hbit : (x / 9223372036854775808 % 2 == 1) = true := by
      have : x / 9223372036854775808 = 1 := by omega
      rw [this]; rfl
    have hs : s = true := by
      unfold Ieee.Format.read at hr
      have hsw : Ieee.double.signWeight = 9223372036854775808 := by decide
      rw [hsw, hbit] at hr
      simp only [] at hr
      split at hr
      · simp only [Ieee.Datum.number.injEq] at hr; exact hr.1.symm
      · split at hr
        · simp only [Ieee.Datum.number.injEq] at hr; exact hr.1.symm
        · split at hr <;> cases hr
    subst hs
    have := mul_nn (show (0 : Rat) ≤ (m : Rat) from Rat.natCast_nonneg) (Rat.le_of_lt (p2_pos i))
    simp only [sgn] at ha
    grind
  subst ha0
  have vY : fv Y = some TP := by rw [← hY]; exact fv_TP
  have aY : absW Y = Y := by subst hY; decide
  have lY : Y < 18446744073709551616 := fv_lt vY
  have hz := ord_gt vY fv_zero (by decide +kernel)
  have hFY := frexp_any Y 1025 2570638124657944 (4602678819172646912 + 2570638124657944) TP vY (by rw [← hY]; decide) (by decide +kernel) (by decide +kernel) (by omega) (by decide) (by decide) (by decide) rfl
  generalize hGY : 4602678819172646912 + 2570638124657944 = GY at hFY
  have hsx := ord_nltB hx fv_zero Rat.le_refl
  have hlt := ord_lt hx vY (by decide +kernel)
  clear hY
  go_enter Tryf.func39, Tryf.ntmps39
  go_wp2_with (first | (refine (isNaN_any x 0 hx _).mono ?_; rintro e w' ⟨rfl, rfl⟩) | (refine (isNaN_any Y TP vY _).mono ?_; rintro e w' ⟨rfl, rfl⟩) | (refine (isInf_any x 0 hx (by constructor <;> decide +kernel) _).mono ?_; rintro e w' ⟨rfl, rfl⟩) | (refine (abs_any Y lY _).mono ?_; rintro e w' ⟨rfl, rfl⟩; rw [aY]) | (refine (hFY _).mono ?_; rintro e w' ⟨rfl, rfl⟩))
  go_loop [7, 8, 9] (fun r _ _ => r = .float .f64 x) (fun r _ _ => 0)
  case atStart => rfl
  case round =>
    subst hrel
    go_wp2_with fail
    go_ret
    exact ⟨⟨0, x, 0, rfl, hx, Or.inl ⟨Rat.le_refl, by simp; grind, Rat.le_refl, by decide +kernel⟩⟩, rfl⟩

set_option maxHeartbeats 1000000 in
theorem mod_any (x Y : Nat) (hY : 4618760256179416344 = Y) (a : Rat) (hx : fv x = some a) (ha : Bd a 120) (w : World) :
    Calls Tryf.prog 34 #[.float .f64 x, .float .f64 Y] w fun r w' => IsMod a r ∧ w' = w := by
  have hc : ∀ w, Calls Tryf.prog 39 #[.float .f64 x, .float .f64 Y] w fun r w' => IsMod a r ∧ w' = w := by
    have h1 := ha.1; have h2 := ha.2
    rcases Rat.le_total (a := 0) (b := a) with h | h
    · by_cases hs : x < 9223372036854775808
      · exact modl_any x Y hY a a hx ha x hx hs h h1 (Or.inl ⟨h, rfl, rfl⟩)
      · exact modl_zero x Y hY a hx h (by omega)
    · by_cases h0 : a = 0
      · subst h0
        by_cases hs : x < 9223372036854775808
        · exact modl_any x Y hY 0 0 hx ha x hx hs Rat.le_refl (by decide +kernel) (Or.inl ⟨Rat.le_refl, rfl, rfl⟩)
        · exact modl_zero x Y hY 0 hx Rat.le_refl (by omega)
      · exact modl_any x Y hY a (-a) hx ha _ (neg_val hx) (neg_pos hx (by grind)) (by grind) h2 (Or.inr ⟨by grind, rfl, rfl⟩)
  clear hY
  go_enter Tryf.func34, Tryf.ntmps34
  go_wp2_with (refine (hc _).mono ?_; rintro e w' ⟨⟨m, r1, q, rfl, hq, hcase⟩, rfl⟩)
  go_ret
  exact ⟨⟨m, r1, q, rfl, hq, hcase⟩, rfl⟩

/-- a carried by whole turns into [0, 2 pi]. -/
def IsNorm (a : Rat) (e : Ending) : Prop := ∃ (r : Nat) (q : Rat) (m : Int), e = .returned (.float .f64 r) ∧ fv r = some q ∧ -(1 / 1000000000000000) ≤ q ∧ q ≤ TP ∧ Bd (q - (a - (m : Rat) * TP)) (2 / 1000000000000000)

theorem ord_neB {x y : Nat} {a b : Rat} (hx : fv x = some a) (hy : fv y = some b) (h : a ≠ b) : (FloatKind.f64.format.order x y == some .eq) = false := by
  rcases order_val hx hy with ⟨_, h1⟩ | ⟨h1, _⟩ | ⟨_, h1⟩
  · have h2 : FloatKind.f64.format.order x y = some .lt := h1
    rw [h2]; rfl
  · exact absurd h1 h
  · have h2 : FloatKind.f64.format.order x y = some .gt := h1
    rw [h2]; rfl

set_option maxHeartbeats 2000000 in
theorem normalized_any (x : Nat) (a : Rat) (hx : fv x = some a) (ha : Bd a 120) (w : World) :
    Calls Tryf.prog 29 #[.float .f64 x] w fun r w' => IsNorm a r ∧ w' = w := by
  have lx := fv_lt hx
  obtain ⟨b, hb, hb0, hb1, hab⟩ := abs_le hx ha
  have vY := fv_TP
  have tl := TP_lo
  have th := TP_hi
  have hM := mod_any x 4618760256179416344 rfl a hx ha
  by_cases hsm : b < TP
  · have hl := ord_lt hb vY hsm
    go_enter Tryf.func29, Tryf.ntmps29
    go_upto_region 4 with (refine (abs_any x lx _).mono ?_; rintro e w' ⟨rfl, rfl⟩)
    obtain ⟨r0, q0, m, hr0, hq0, h1, h2, h3⟩ : ∃ (r0 : Nat) (q0 : Rat) (m : Int), r0 = x ∧ fv r0 = some q0 ∧ -TP < q0 ∧ q0 < TP ∧ q0 = a - (m : Rat) * TP := ⟨x, a, 0, rfl, hx, by grind, by grind, by simp; grind⟩
    subst hr0

    by_cases hneg : q0 < 0
    · have hl0 := ord_lt hq0 fv_zero hneg
      obtain ⟨s, hs, qs, hqs, es, _⟩ := Fx.add' 3 (63 / 10) (1 / 1000000000000000) (Fx.lit hq0 (A := 63 / 10) ⟨by grind, by grind⟩) (Fx.lit vY (A := 63 / 10) (by constructor <;> decide +kernel)) ⟨by grind, by grind⟩ (by decide +kernel)
      have fs := runAdd hs
      have es1 := es.1
      have es2 := es.2
      by_cases hge : TP ≤ qs
      · have hgB := ord_ge hqs vY hge
        go_wp2_with fail
        go_ret
        exact ⟨⟨0, 0, m, rfl, fv_zero, by decide +kernel, by decide +kernel, by constructor <;> grind⟩, rfl⟩
      · have hsl := ord_lt hqs vY (by grind)
        by_cases hz : qs = 0
        · have hsz := ord_eq hqs fv_zero hz
          go_wp2_with fail
          go_ret
          exact ⟨⟨0, 0, m - 1, rfl, fv_zero, by decide +kernel, by decide +kernel, by rw [Rat.intCast_sub]; constructor <;> grind⟩, rfl⟩
        · have hsz : (FloatKind.f64.format.order s 0 == some .eq) = false := ord_neB hqs fv_zero hz
          go_wp2_with fail
          go_ret
          exact ⟨⟨s, qs, m - 1, rfl, hqs, by grind, by grind, by rw [Rat.intCast_sub]; constructor <;> grind⟩, rfl⟩
    · have hl0 := ord_nltB hq0 fv_zero (by grind)
      have hsl := ord_lt hq0 vY (by grind)
      by_cases hz : q0 = 0
      · have hsz := ord_eq hq0 fv_zero hz
        go_wp2_with fail
        go_ret
        exact ⟨⟨0, 0, m, rfl, fv_zero, by decide +kernel, by decide +kernel, by constructor <;> grind⟩, rfl⟩
      · have hsz : (FloatKind.f64.format.order r0 0 == some .eq) = false := ord_neB hq0 fv_zero hz
        go_wp2_with fail
        go_ret
        exact ⟨⟨r0, q0, m, rfl, hq0, by grind, by grind, by constructor <;> grind⟩, rfl⟩
    
  · have hl : (FloatKind.f64.format.order (absW x) 4618760256179416344 == some .lt) = false := ord_nltB hb vY (by grind)
    go_enter Tryf.func29, Tryf.ntmps29
    go_upto_region 4 with (first | (refine (abs_any x lx _).mono ?_; rintro e w' ⟨rfl, rfl⟩) | (refine (hM _).mono ?_; rintro e w' ⟨⟨mm, r0, q0, rfl, hq0, hcase⟩, rfl⟩))
    obtain ⟨m, h1, h2, h3⟩ : ∃ (m : Int), -TP < q0 ∧ q0 < TP ∧ q0 = a - (m : Rat) * TP := by
      rcases hcase with ⟨_, c1, c2, c3⟩ | ⟨_, c1, c2, c3⟩
      · exact ⟨(mm : Int), by grind, c3, by rw [c1]; rfl⟩
      · exact ⟨-(mm : Int), c3, by grind, by rw [c1, Rat.intCast_neg]; have : (((mm : Nat) : Int) : Rat) = (mm : Rat) := rfl; grind⟩

    by_cases hneg : q0 < 0
    · have hl0 := ord_lt hq0 fv_zero hneg
      obtain ⟨s, hs, qs, hqs, es, _⟩ := Fx.add' 3 (63 / 10) (1 / 1000000000000000) (Fx.lit hq0 (A := 63 / 10) ⟨by grind, by grind⟩) (Fx.lit vY (A := 63 / 10) (by constructor <;> decide +kernel)) ⟨by grind, by grind⟩ (by decide +kernel)
      have fs := runAdd hs
      have es1 := es.1
      have es2 := es.2
      by_cases hge : TP ≤ qs
      · have hgB := ord_ge hqs vY hge
        go_wp2_with fail
        go_ret
        exact ⟨⟨0, 0, m, rfl, fv_zero, by decide +kernel, by decide +kernel, by constructor <;> grind⟩, rfl⟩
      · have hsl := ord_lt hqs vY (by grind)
        by_cases hz : qs = 0
        · have hsz := ord_eq hqs fv_zero hz
          go_wp2_with fail
          go_ret
          exact ⟨⟨0, 0, m - 1, rfl, fv_zero, by decide +kernel, by decide +kernel, by rw [Rat.intCast_sub]; constructor <;> grind⟩, rfl⟩
        · have hsz : (FloatKind.f64.format.order s 0 == some .eq) = false := ord_neB hqs fv_zero hz
          go_wp2_with fail
          go_ret
          exact ⟨⟨s, qs, m - 1, rfl, hqs, by grind, by grind, by rw [Rat.intCast_sub]; constructor <;> grind⟩, rfl⟩
    · have hl0 := ord_nltB hq0 fv_zero (by grind)
      have hsl := ord_lt hq0 vY (by grind)
      by_cases hz : q0 = 0
      · have hsz := ord_eq hq0 fv_zero hz
        go_wp2_with fail
        go_ret
        exact ⟨⟨0, 0, m, rfl, fv_zero, by decide +kernel, by decide +kernel, by constructor <;> grind⟩, rfl⟩
      · have hsz : (FloatKind.f64.format.order r0 0 == some .eq) = false := ord_neB hq0 fv_zero hz
        go_wp2_with fail
        go_ret
        exact ⟨⟨r0, q0, m, rfl, hq0, by grind, by grind, by constructor <;> grind⟩, rfl⟩
    
end Go.Proofs.Qxb6609382aFmt.W
