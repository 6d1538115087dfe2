import Derived.Test.Qxb6609382aFmtFs
/-! The root finder's numbers. -/
namespace Go.Proofs.Qxb6609382aFmt.Fl

def St : Rat := 6996098493140215 / 604462909807314587353088
theorem fv_St : fv 4488077727726783735 = some St := by decide +kernel
theorem St_lo : 11574074 / 1000000000000000 ≤ St := by decide +kernel
theorem St_hi : St ≤ 11574075 / 1000000000000000 := by decide +kernel

/-- The middle of two words. -/
theorem mid_near {x y : Nat} {a b : Rat} (hx : fv x = some a) (hy : fv y = some b) (ba : Bd a (13 / 10)) (bb : Bd b (13 / 10)) :
    ∃ s m q, Ieee.double.add x y = some s ∧ Ieee.double.div s 4611686018427387904 = some m ∧ fv m = some q ∧ Bd (q - (a + b) / 2) (25 / 10000000000000000) := by
  obtain ⟨s, e1, f1⟩ := Fx.add 2 (26 / 10) (5 / 10000000000000000) (Fx.lit hx ba) (Fx.lit hy bb) (by decide +kernel)
  obtain ⟨m, e2, f2⟩ := Fx.divc 1 (13 / 10) (25 / 10000000000000000) f1 fv_two (by decide +kernel)
  obtain ⟨q, v, d, _⟩ := f2
  exact ⟨s, m, q, e1, e2, v, d⟩

/-- The distance of two words. -/
theorem dif_near {x y : Nat} {a b : Rat} (hx : fv x = some a) (hy : fv y = some b) (hd : Bd (a - b) (45 / 100)) (ba : Bd a 2) (bb : Bd b 2) :
    ∃ d q, Ieee.double.sub x y = some d ∧ d < 18446744073709551616 ∧ fv (absW d) = some q ∧ (b ≤ a → Bd (q - (a - b)) (1 / 10000000000000000)) ∧ (a ≤ b → Bd (q - (b - a)) (1 / 10000000000000000)) := by
  obtain ⟨d, e1, f1⟩ := Fx.sub' (-1) (45 / 100) (6 / 100000000000000000) (Fx.lit hx ba) (Fx.lit hy bb) hd (by decide +kernel)
  obtain ⟨q, v, e, _⟩ := f1
  have e1' := e.1; have e2' := e.2
  rcases abs_val v with ⟨h1, h2⟩ | ⟨h1, h2⟩
  · exact ⟨d, q, e1, fv_lt v, h2, fun h => ⟨by grind, by grind⟩, fun h => ⟨by grind, by grind⟩⟩
  · exact ⟨d, -q, e1, fv_lt v, h2, fun h => ⟨by grind, by grind⟩, fun h => ⟨by grind, by grind⟩⟩

/-- The step by the tangent. -/
theorem newton_near {v r t : Nat} {s A ν ρ τ : Rat} (hs : s = 1 ∨ s = -1) (hA : 2 / 1000 ≤ A) (hv : fv v = some (s * (A * ν))) (hr : fv r = some (-(s * (A * ρ)))) (h18 : 18 ≤ ρ) (bν : Bd ν 25) (ht : fv t = some τ) (bt : Bd τ (13 / 10)) :
    ∃ q n z u, Ieee.double.div v r = some q ∧ Ieee.double.sub t q = some n ∧ fv n = some z ∧ u * ρ = -ν ∧ Bd (z - (τ - u)) (3 / 1000000000000000) := by
  have hz : -(s * (A * ρ)) ≠ 0 := by
    have := mul_nn (show 0 ≤ A - 2 / 1000 by grind) (show 0 ≤ ρ - 18 by grind)
    rcases hs with rfl | rfl <;> grind
  obtain ⟨u, hu⟩ : ∃ u, u = s * (A * ν) / -(s * (A * ρ)) := ⟨_, rfl⟩
  have e0 : u * -(s * (A * ρ)) = s * (A * ν) := by rw [hu]; exact Rat.div_mul_cancel hz
  have hA0 : 0 < A := by grind
  have e1 : u * ρ = -ν := by
    have : A * (u * ρ) = A * -ν := by rcases hs with rfl | rfl <;> grind
    have l1 : u * ρ ≤ -ν := Rat.le_of_mul_le_mul_left (by rw [this]; exact Rat.le_refl) hA0
    have l2 : -ν ≤ u * ρ := Rat.le_of_mul_le_mul_left (by rw [this]; exact Rat.le_refl) hA0
    grind
  have n1 := bν.1; have n2 := bν.2
  have bu : Bd u (14 / 10) := by
    constructor
    · rcases Rat.le_total (a := u) (b := 0) with h | h
      · grind
      · have := mul_nn h (show 0 ≤ ρ - 18 by grind); grind
    · rcases Rat.le_total (a := u) (b := 0) with h | h
      · have := mul_nn (show 0 ≤ -u by grind) (show 0 ≤ ρ - 18 by grind); grind
      · grind
  have k1 : (14 : Rat) / 10 ≤ p2 1 := by decide +kernel
  have k2 : p2 (1 - 51) ≤ 1 / 1000000000000000 := by decide +kernel
  have u1 := bu.1; have u2 := bu.2
  obtain ⟨q, hq, c, hc, d1, d2⟩ := div_near hv hr hz 1 (by rw [← hu]; grind) (by rw [← hu]; grind) (by decide) (by decide)
  rw [← hu] at d1 d2
  have fq : Fx q u (14 / 10) (1 / 1000000000000000) := ⟨c, hc, ⟨by grind, by grind⟩, bu⟩
  obtain ⟨n, hn, f2⟩ := Fx.sub 2 (27 / 10) (3 / 1000000000000000) (Fx.lit ht bt) fq (by decide +kernel)
  obtain ⟨z, hz', e2, _⟩ := f2
  exact ⟨q, n, z, u, hq, hn, hz', e1, e2⟩

/-- What bounds the bracket after i rounds. -/
def hlf : Nat → Rat
  | 0 => 3 / 10
  | n + 1 => 51 / 100 * hlf n
theorem hlf_60 : hlf 60 < 1 / 1000000000 := by decide +kernel

theorem half_near {x : Nat} {a : Rat} (hx : fv x = some a) (ba : Bd a (11 / 10)) : ∃ h q, Ieee.double.div x 4611686018427387904 = some h ∧ fv h = some q ∧ Bd (q - a / 2) (1 / 1000000000000000) := by
  obtain ⟨m, e2, f2⟩ := Fx.divc 0 (6 / 10) (1 / 1000000000000000) (Fx.lit hx ba) fv_two (by decide +kernel)
  obtain ⟨q, v, d, _⟩ := f2
  exact ⟨m, q, e2, v, d⟩

/-- The first round: the tangent's step is tiny. -/
theorem first_near {z0 st v r : Nat} {z qs qv qr θ : Rat} {k : Int} (hz : fv z0 = some z) (bz : Bd z (11 / 10)) (hst : fv st = some qs) (bst : Bd qs (11 / 10)) (lst : 1 / 2000 ≤ qs) (hv : fv v = some qv) (hr : fv r = some qr) (ok : RateOK k θ qv qr) (hθ : Bd θ (1 / 100000000000)) :
    ∃ q n zn hn ah h2 a2, Ieee.double.div v r = some q ∧ Ieee.double.sub z0 q = some n ∧ fv n = some zn ∧ Bd (zn - z) (2 / 1000000000) ∧ Ieee.double.sub n z0 = some hn ∧ hn < 18446744073709551616 ∧ fv (absW hn) = some ah ∧ ah < St ∧ Ieee.double.div st 4611686018427387904 = some h2 ∧ fv h2 = some a2 ∧ ah ≤ a2 := by
  obtain ⟨A, ν, ρ, A1, A2, rfl, rfl, o1, o2, o3, o4, o5, o6, o7⟩ := ok
  obtain ⟨r1, r2⟩ := o6 (hθ.mono (by decide +kernel))
  have n := o1 hθ
  have n1 := n.1; have n2 := n.2
  have z1 := bz.1; have z2 := bz.2
  obtain ⟨q, n, zn, u, e1, e2, e3, e4, e5⟩ := newton_near (sg_two k) A1 hv hr r1 o7 hz (bz.mono (by decide +kernel))
  have d1 := e5.1; have d2 := e5.2
  have bu : Bd u (18 / 10000000000) := by
    constructor
    · rcases Rat.le_total (a := u) (b := 0) with h | h
      · grind
      · have := mul_nn h (show 0 ≤ ρ - 18 by grind); grind
    · rcases Rat.le_total (a := u) (b := 0) with h | h
      · have := mul_nn (show 0 ≤ -u by grind) (show 0 ≤ ρ - 18 by grind); grind
      · grind
  have u1 := bu.1; have u2 := bu.2
  obtain ⟨hn, ah, f1, f2, f3, f4, f5⟩ := dif_near e3 hz ⟨by grind, by grind⟩ ⟨by grind, by grind⟩ (bz.mono (by decide +kernel))
  obtain ⟨h2, a2, g1, g2, g3⟩ := half_near hst bst
  have s1 := St_lo
  have g4 := g3.2
  have f6 : ah ≤ 3 / 1000000000 := by
    rcases Rat.le_total (a := z) (b := zn) with h | h
    · have := (f4 h).1; grind
    · have := (f5 h).1; grind
  exact ⟨q, n, zn, hn, ah, h2, a2, e1, e2, e3, ⟨by grind, by grind⟩, f1, f2, f3, by grind, g1, g2, by grind⟩

/-- A round of the bisection from above. -/
theorem up_near {z0 t st v r : Nat} {z s qs qv qr θ : Rat} {k : Int} (hz : fv z0 = some z) (bz : Bd z (101 / 100)) (ht : fv t = some (z + s)) (hst : fv st = some qs) (s1 : 115 / 10000000000 ≤ s) (s2 : s ≤ 125001 / 1000000) (hqs : Bd (qs - s) (8 / 1000000000000000)) (hv : fv v = some qv) (hr : fv r = some qr) (ok : RateOK k θ qv qr) (hθ : Bd (θ - Wr * s) (1 / 100000000000)) :
    ∃ q n zn sm nx qx d qd, Ieee.double.div v r = some q ∧ Ieee.double.sub t q = some n ∧ fv n = some zn ∧ zn < z + s ∧
      (z < zn → ∃ hn ah h2 a2, Ieee.double.sub n t = some hn ∧ hn < 18446744073709551616 ∧ fv (absW hn) = some ah ∧ Ieee.double.div st 4611686018427387904 = some h2 ∧ fv h2 = some a2 ∧ a2 < ah) ∧
      Ieee.double.add z0 t = some sm ∧ Ieee.double.div sm 4611686018427387904 = some nx ∧ fv nx = some qx ∧ Ieee.double.sub nx t = some d ∧ d < 18446744073709551616 ∧ fv (absW d) = some qd ∧ Bd (qx - z - s / 2) (3 / 1000000000000000) ∧ Bd (qd - (qx - z)) (7 / 1000000000000000) ∧ (sg k = 1 → qv < 0) ∧ (sg k = -1 → 0 < qv) := by
  obtain ⟨A, ν, ρ, A1, A2, rfl, rfl, o1, o2, o3, o4, o5, o6, o7⟩ := ok
  have w1 := Wr_lo; have w2 := Wr_hi
  have t1 := hθ.1; have t2 := hθ.2
  have m1 := mul_nn (show 0 ≤ Wr - 63003874867548 / 10000000000000 by grind) (show 0 ≤ s by grind)
  have m2 := mul_nn (show 0 ≤ 63003874867549 / 10000000000000 - Wr by grind) (show 0 ≤ s by grind)
  have θ1 : 7 / 100000000 ≤ θ := by grind
  have θ2 : θ ≤ 79 / 100 := by grind
  obtain ⟨r1, r2⟩ := o6 ⟨by grind, by grind⟩
  have hν := o2 (by grind) θ2
  have m3 := mul_nn (show 0 ≤ Wr - 63003874867548 / 10000000000000 by grind) (show 0 ≤ θ by grind)
  have z1 := bz.1; have z2 := bz.2
  have q1 := hqs.1; have q2 := hqs.2
  obtain ⟨q, n, zn, u, e1, e2, e3, e4, e5⟩ := newton_near (sg_two k) A1 hv hr r1 o7 ht ⟨by grind, by grind⟩
  have d1 := e5.1; have d2 := e5.2
  have u1 : 67 / 100 * s ≤ u := by
    rcases Rat.le_total (a := u) (b := 0) with h | h
    · have := mul_nn (show 0 ≤ -u by grind) (show 0 ≤ ρ by grind)
      exfalso; grind
    · have := mul_nn h (show 0 ≤ 44 - ρ by grind)
      grind
  obtain ⟨sm, nx, qx, g1, g2, g3, g4⟩ := mid_near hz ht (bz.mono (by decide +kernel)) ⟨by grind, by grind⟩
  have g5 := g4.1; have g6 := g4.2
  obtain ⟨d, qd, i1, i2, i3, i4, i5⟩ := dif_near g3 ht ⟨by grind, by grind⟩ ⟨by grind, by grind⟩ ⟨by grind, by grind⟩
  have i6 := (i5 (by grind)).1; have i7 := (i5 (by grind)).2
  refine ⟨q, n, zn, sm, nx, qx, d, qd, e1, e2, e3, by grind, fun hz' => ?_, g1, g2, g3, i1, i2, i3, ⟨by grind, by grind⟩, ⟨by grind, by grind⟩, ?_, ?_⟩
  · obtain ⟨hn, ah, j1, j2, j3, j4, j5⟩ := dif_near e3 ht ⟨by grind, by grind⟩ ⟨by grind, by grind⟩ ⟨by grind, by grind⟩
    obtain ⟨h2, a2, l1, l2, l3⟩ := half_near hst ⟨by grind, by grind⟩
    have l4 := l3.1
    have j6 := (j5 (by grind)).2
    exact ⟨hn, ah, h2, a2, j1, j2, j3, l1, l2, by grind⟩
  · intro h
    have hn : ν < 0 := by grind
    have := mul_nn (show 0 ≤ A - 2 / 1000 by grind) (show 0 ≤ -ν by grind)
    rw [h]; grind
  · intro h
    have hn : ν < 0 := by grind
    have := mul_nn (show 0 ≤ A - 2 / 1000 by grind) (show 0 ≤ -ν by grind)
    rw [h]; grind

/-- A round of the bisection from below. -/
theorem down_near {z0 t st v r : Nat} {z s qs qv qr θ : Rat} {k : Int} (hz : fv z0 = some z) (bz : Bd z (101 / 100)) (ht : fv t = some (z - s)) (hst : fv st = some qs) (s1 : 115 / 10000000000 ≤ s) (s2 : s ≤ 125001 / 1000000) (hqs : Bd (qs - s) (8 / 1000000000000000)) (hv : fv v = some qv) (hr : fv r = some qr) (ok : RateOK k θ qv qr) (hθ : Bd (θ - -(Wr * s)) (1 / 100000000000)) :
    ∃ q n zn sm nx qx d qd, Ieee.double.div v r = some q ∧ Ieee.double.sub t q = some n ∧ fv n = some zn ∧ z - s < zn ∧
      (zn < z → ∃ hn ah h2 a2, Ieee.double.sub n t = some hn ∧ hn < 18446744073709551616 ∧ fv (absW hn) = some ah ∧ Ieee.double.div st 4611686018427387904 = some h2 ∧ fv h2 = some a2 ∧ a2 < ah) ∧
      Ieee.double.add t z0 = some sm ∧ Ieee.double.div sm 4611686018427387904 = some nx ∧ fv nx = some qx ∧ Ieee.double.sub nx t = some d ∧ d < 18446744073709551616 ∧ fv (absW d) = some qd ∧ Bd (z - qx - s / 2) (3 / 1000000000000000) ∧ Bd (qd - (z - qx)) (7 / 1000000000000000) ∧ (sg k = 1 → 0 < qv) ∧ (sg k = -1 → qv < 0) := by
  obtain ⟨A, ν, ρ, A1, A2, rfl, rfl, o1, o2, o3, o4, o5, o6, o7⟩ := ok
  have w1 := Wr_lo; have w2 := Wr_hi
  have t1 := hθ.1; have t2 := hθ.2
  have m1 := mul_nn (show 0 ≤ Wr - 63003874867548 / 10000000000000 by grind) (show 0 ≤ s by grind)
  have m2 := mul_nn (show 0 ≤ 63003874867549 / 10000000000000 - Wr by grind) (show 0 ≤ s by grind)
  have θ1 : 7 / 100000000 ≤ -θ := by grind
  have θ2 : -θ ≤ 79 / 100 := by grind
  obtain ⟨r1, r2⟩ := o6 ⟨by grind, by grind⟩
  have hν := o3 (by grind) θ2
  have m3 := mul_nn (show 0 ≤ Wr - 63003874867548 / 10000000000000 by grind) (show 0 ≤ -θ by grind)
  have z1 := bz.1; have z2 := bz.2
  have q1 := hqs.1; have q2 := hqs.2
  obtain ⟨q, n, zn, u, e1, e2, e3, e4, e5⟩ := newton_near (sg_two k) A1 hv hr r1 o7 ht ⟨by grind, by grind⟩
  have d1 := e5.1; have d2 := e5.2
  have u1 : 67 / 100 * s ≤ -u := by
    rcases Rat.le_total (a := u) (b := 0) with h | h
    · have := mul_nn (show 0 ≤ -u by grind) (show 0 ≤ 44 - ρ by grind)
      grind
    · have := mul_nn h (show 0 ≤ ρ by grind)
      exfalso; grind
  obtain ⟨sm, nx, qx, g1, g2, g3, g4⟩ := mid_near ht hz ⟨by grind, by grind⟩ (bz.mono (by decide +kernel))
  have g5 := g4.1; have g6 := g4.2
  obtain ⟨d, qd, i1, i2, i3, i4, i5⟩ := dif_near g3 ht ⟨by grind, by grind⟩ ⟨by grind, by grind⟩ ⟨by grind, by grind⟩
  have i6 := (i4 (by grind)).1; have i7 := (i4 (by grind)).2
  refine ⟨q, n, zn, sm, nx, qx, d, qd, e1, e2, e3, by grind, fun hz' => ?_, g1, g2, g3, i1, i2, i3, ⟨by grind, by grind⟩, ⟨by grind, by grind⟩, ?_, ?_⟩
  · obtain ⟨hn, ah, j1, j2, j3, j4, j5⟩ := dif_near e3 ht ⟨by grind, by grind⟩ ⟨by grind, by grind⟩ ⟨by grind, by grind⟩
    obtain ⟨h2, a2, l1, l2, l3⟩ := half_near hst ⟨by grind, by grind⟩
    have l4 := l3.1
    have j6 := (j4 (by grind)).2
    exact ⟨hn, ah, h2, a2, j1, j2, j3, l1, l2, by grind⟩
  · intro h
    have hn : 0 < ν := by grind
    have := mul_nn (show 0 ≤ A - 2 / 1000 by grind) (show 0 ≤ ν by grind)
    rw [h]; grind
  · intro h
    have hn : 0 < ν := by grind
    have := mul_nn (show 0 ≤ A - 2 / 1000 by grind) (show 0 ≤ ν by grind)
    rw [h]; grind
end Go.Proofs.Qxb6609382aFmt.Fl
