import Derived.Test.Qxb6609382aFmtM
import Derived.Test.Qxb6609382aFmtFt
namespace Go.Proofs.Qxb6609382aFmt.W
open Go.RowKit Go.Proofs.Qxb6609382aFmt.Fl

theorem runMin {x y : Nat} {a b : Rat} (hx : fv x = some a) (hy : fv y = some b) (h : a < b) (ts : Array TypeId) (t : TypeId) (w : World) : (Builtin.min_ ts t #[.float .f64 x, .float .f64 y]).run Tryf.prog w = .ok (.float .f64 x) w := by
  simp [Builtin.min_, Builtin.min2, ord_lt hx hy h]
theorem runMax {x y : Nat} {a b : Rat} (hx : fv x = some a) (hy : fv y = some b) (h : a < b) (ts : Array TypeId) (t : TypeId) (w : World) : (Builtin.max_ ts t #[.float .f64 x, .float .f64 y]).run Tryf.prog w = .ok (.float .f64 y) w := by
  simp [Builtin.max_, Builtin.max2, ord_lt hx hy h]
theorem ord_ngtB {x y : Nat} {a b : Rat} (hx : fv x = some a) (hy : fv y = some b) (h : a ≤ b) : (FloatKind.f64.format.order x y == some .gt) = false := by
  rcases order_val hx hy with ⟨_, h1⟩ | ⟨_, h1⟩ | ⟨h1, _⟩
  · have h2 : FloatKind.f64.format.order x y = some .lt := h1
    rw [h2]; rfl
  · have h2 : FloatKind.f64.format.order x y = some .eq := h1
    rw [h2]; rfl
  · exfalso; grind

/-- What the root finder's loop keeps. -/
def SInv (a b z0 st0 : Nat) (z : Rat) (i x y t st : Nat) : Prop :=
  (i = 0 ∧ x = a ∧ y = b ∧ t = z0 ∧ st = st0) ∨
  (1 ≤ i ∧ i ≤ 59 ∧ ∃ qs s : Rat, fv st = some qs ∧ 115 / 10000000000 ≤ s ∧ s ≤ 125001 / 1000000 ∧ s ≤ hlf i ∧ Bd (qs - s) (8 / 1000000000000000) ∧ ((fv t = some (z + s) ∧ x = z0) ∨ (fv t = some (z - s) ∧ y = z0)))

/-- A root near z. -/
def IsRoot (z : Rat) (e : Ending) : Prop := ∃ r q, e = .returned (.tuple #[.float .f64 r, .nilIface]) ∧ fv r = some q ∧ Bd (q - z) (2 / 100000000)

theorem SInv.next {a b z0 st0 : Nat} {z : Rat} {i x y t st : Nat} {qs s s' : Rat} (h59 : i ≤ 59) (h1 : s ≤ hlf i) (hs' : s' ≤ 51 / 100 * s) (h0 : 115 / 10000000000 ≤ s') (h2 : s' ≤ 125001 / 1000000) (hst : fv st = some qs) (hq : Bd (qs - s') (8 / 1000000000000000)) (hside : (fv t = some (z + s') ∧ x = z0) ∨ (fv t = some (z - s') ∧ y = z0)) : SInv a b z0 st0 z (i + 1) x y t st := by
  have h3 : s' ≤ hlf (i + 1) := by simp only [hlf]; grind
  refine Or.inr ⟨by omega, ?_, qs, s', hst, h0, h2, h3, hq, hside⟩
  rcases Nat.lt_or_ge i 59 with h | h
  · omega
  · obtain rfl : i = 59 := by omega
    have := hlf_60
    exfalso; grind

/-- The first round, in facts for the walk. -/
theorem first_case {a b z0 st v r : Nat} {qa qb z qs qv qr ε : Rat} {k : Int} (ha : fv a = some qa) (hb : fv b = some qb) (hz : fv z0 = some z) (bz : Bd z (101 / 100)) (ba : Bd qa (101 / 100)) (bb : Bd qb (101 / 100)) (l1 : 1 / 2000 ≤ z - qa) (l2 : z - qa ≤ 1 / 4) (l3 : 1 / 2000 ≤ qb - z) (l4 : qb - z ≤ 1 / 4)
    (hst : fv st = some qs) (bst : Bd qs (11 / 10)) (lst : 1 / 2000 ≤ qs) (hv : fv v = some qv) (hr : fv r = some qr) (ok : RateOK k ε qv qr) (bε : Bd ε (1 / 100000000000)) :
    ∃ q n hn h2, Ieee.double.div v r = some q ∧ Ieee.double.sub z0 q = some n ∧ Ieee.double.sub n z0 = some hn ∧ hn < 18446744073709551616 ∧ Ieee.double.div st 4611686018427387904 = some h2 ∧ (FloatKind.f64.format.order (absW hn) h2 == some .gt) = false ∧ FloatKind.f64.format.order (absW hn) 4488077727726783735 = some .lt ∧
      ((∃ q, fv n = some q ∧ Bd (q - z) (2 / 100000000)) ∧ FloatKind.f64.format.order n a = some .gt ∧ FloatKind.f64.format.order n b = some .lt) ∧ (FloatKind.f64.format.order n z0 = some .gt ∨ (FloatKind.f64.format.order n z0 == some .gt) = false) ∧ (FloatKind.f64.format.order n z0 = some .lt ∨ (FloatKind.f64.format.order n z0 == some .lt) = false) ∧
      (∃ sm nx d, Ieee.double.add z0 b = some sm ∧ Ieee.double.div sm 4611686018427387904 = some nx ∧ Ieee.double.sub nx z0 = some d ∧ d < 18446744073709551616 ∧ (FloatKind.f64.format.order (absW d) 4488077727726783735 == some .lt) = false ∧ SInv a b z0 st z 1 z0 b nx (absW d)) ∧
      (∃ sm nx d, Ieee.double.add a z0 = some sm ∧ Ieee.double.div sm 4611686018427387904 = some nx ∧ Ieee.double.sub nx z0 = some d ∧ d < 18446744073709551616 ∧ (FloatKind.f64.format.order (absW d) 4488077727726783735 == some .lt) = false ∧ SInv a b z0 st z 1 a z0 nx (absW d)) := by
  have z1 := bz.1; have z2 := bz.2; have y1 := ba.1; have y2 := ba.2; have x1 := bb.1; have x2 := bb.2
  have S1 := St_lo; have S2 := St_hi
  have hh : hlf 1 = 153 / 1000 := by decide +kernel
  obtain ⟨q, n, zn, hn, ah, h2, a2, k1, k2, k3, k4, k5, k6, k7, k8, k9, k10, k11⟩ := first_near hz (bz.mono (by decide +kernel)) hst bst lst hv hr ok bε
  have k41 := k4.1; have k42 := k4.2
  refine ⟨q, n, hn, h2, k1, k2, k5, k6, k9, ord_ngtB k7 k10 k11, ord_lt k7 fv_St k8, ⟨⟨zn, k3, ⟨by grind, by grind⟩⟩, ord_gt k3 ha (by grind), ord_lt k3 hb (by grind)⟩, ?_, ?_, ?_, ?_⟩
  · by_cases h : z < zn
    · exact Or.inl (ord_gt k3 hz h)
    · exact Or.inr (ord_ngtB k3 hz (by grind))
  · by_cases h : zn < z
    · exact Or.inl (ord_lt k3 hz h)
    · exact Or.inr (ord_nltB k3 hz (by grind))
  · obtain ⟨sm, nx, qx, g1, g2, g3, g4⟩ := mid_near hz hb (bz.mono (by decide +kernel)) (bb.mono (by decide +kernel))
    have g5 := g4.1; have g6 := g4.2
    obtain ⟨d, qd, i1, i2, i3, i4, i5⟩ := dif_near g3 hz ⟨by grind, by grind⟩ ⟨by grind, by grind⟩ ⟨by grind, by grind⟩
    have i6 := (i4 (by grind)).1; have i7 := (i4 (by grind)).2
    exact ⟨sm, nx, d, g1, g2, i1, i2, ord_nltB i3 fv_St (by grind), Or.inr ⟨by omega, by omega, qd, qx - z, i3, by grind, by grind, by rw [hh]; grind, ⟨by grind, by grind⟩, Or.inl ⟨by rw [g3]; congr 1; grind, rfl⟩⟩⟩
  · obtain ⟨sm, nx, qx, g1, g2, g3, g4⟩ := mid_near ha hz (ba.mono (by decide +kernel)) (bz.mono (by decide +kernel))
    have g5 := g4.1; have g6 := g4.2
    obtain ⟨d, qd, i1, i2, i3, i4, i5⟩ := dif_near g3 hz ⟨by grind, by grind⟩ ⟨by grind, by grind⟩ ⟨by grind, by grind⟩
    have i6 := (i5 (by grind)).1; have i7 := (i5 (by grind)).2
    exact ⟨sm, nx, d, g1, g2, i1, i2, ord_nltB i3 fv_St (by grind), Or.inr ⟨by omega, by omega, qd, z - qx, i3, by grind, by grind, by rw [hh]; grind, ⟨by grind, by grind⟩, Or.inr ⟨by rw [g3]; congr 1; grind, rfl⟩⟩⟩

theorem up_case {a b z0 sta t st v r i : Nat} {z s qs qv qr ε : Rat} {k : Int} (hz : fv z0 = some z) (bz : Bd z (101 / 100)) (ht : fv t = some (z + s)) (hst : fv st = some qs) (h59 : i ≤ 59) (s1 : 115 / 10000000000 ≤ s) (s2 : s ≤ 125001 / 1000000) (s3 : s ≤ hlf i) (hqs : Bd (qs - s) (8 / 1000000000000000)) (hv : fv v = some qv) (hr : fv r = some qr) (ok : RateOK k (ε + Wr * s) qv qr) (bε : Bd ε (1 / 100000000000)) :
    ∃ q n sm nx d, Ieee.double.div v r = some q ∧ Ieee.double.sub t q = some n ∧ ((sg k = 1 → FloatKind.f64.format.order v 0 = some .lt) ∧ (sg k = -1 → (FloatKind.f64.format.order v 0 == some .gt || FloatKind.f64.format.order v 0 == some .eq) = true)) ∧ (((FloatKind.f64.format.order n z0 == some .gt) = false ∨ (FloatKind.f64.format.order n z0 = some .gt ∧ FloatKind.f64.format.order n t = some .lt ∧ ∃ hn h2, Ieee.double.sub n t = some hn ∧ hn < 18446744073709551616 ∧ Ieee.double.div st 4611686018427387904 = some h2 ∧ FloatKind.f64.format.order (absW hn) h2 = some .gt))) ∧
      Ieee.double.add z0 t = some sm ∧ Ieee.double.div sm 4611686018427387904 = some nx ∧ Ieee.double.sub nx t = some d ∧ d < 18446744073709551616 ∧
      ((FloatKind.f64.format.order (absW d) 4488077727726783735 = some .lt ∧ ∃ q, fv nx = some q ∧ Bd (q - z) (2 / 100000000)) ∨ ((FloatKind.f64.format.order (absW d) 4488077727726783735 == some .lt) = false ∧ ∀ o, SInv a b z0 sta z (i + 1) z0 o nx (absW d))) := by
  have e1 := bε.1; have e2 := bε.2
  have S1 := St_lo; have S2 := St_hi
  obtain ⟨q, n, zn, sm, nx, qx, d, qd, k1, k2, k3, k4, k5, g1, g2, g3, i1, i2, i3, g4, i4, p1, p2⟩ := up_near hz bz ht hst s1 s2 hqs hv hr ok ⟨by grind, by grind⟩
  have g5 := g4.1; have g6 := g4.2; have i5 := i4.1; have i6 := i4.2
  refine ⟨q, n, sm, nx, d, k1, k2, ⟨fun h => ord_lt hv fv_zero (p1 h), fun h => ord_ge hv fv_zero (by have := p2 h; grind)⟩, ?_, g1, g2, i1, i2, ?_⟩
  · by_cases h : z < zn
    · obtain ⟨hn, ah, h2, a2, j1, j2, j3, j4, j5, j6⟩ := k5 h
      exact Or.inr ⟨ord_gt k3 hz h, ord_lt k3 ht k4, hn, h2, j1, j2, j4, ord_gt j3 j5 j6⟩
    · exact Or.inl (ord_ngtB k3 hz (by grind))
  · by_cases h : qd < St
    · exact Or.inl ⟨ord_lt i3 fv_St h, qx, g3, ⟨by grind, by grind⟩⟩
    · exact Or.inr ⟨ord_nltB i3 fv_St (by grind), fun o => SInv.next h59 s3 (s' := qx - z) (by grind) (by grind) (by grind) i3 (i4.mono (by decide +kernel)) (Or.inl ⟨by rw [g3]; congr 1; grind, rfl⟩)⟩

theorem down_case {a b z0 sta t st v r i : Nat} {z s qs qv qr ε : Rat} {k : Int} (hz : fv z0 = some z) (bz : Bd z (101 / 100)) (ht : fv t = some (z - s)) (hst : fv st = some qs) (h59 : i ≤ 59) (s1 : 115 / 10000000000 ≤ s) (s2 : s ≤ 125001 / 1000000) (s3 : s ≤ hlf i) (hqs : Bd (qs - s) (8 / 1000000000000000)) (hv : fv v = some qv) (hr : fv r = some qr) (ok : RateOK k (ε - Wr * s) qv qr) (bε : Bd ε (1 / 100000000000)) :
    ∃ q n sm nx d, Ieee.double.div v r = some q ∧ Ieee.double.sub t q = some n ∧ ((sg k = 1 → (FloatKind.f64.format.order v 0 == some .gt || FloatKind.f64.format.order v 0 == some .eq) = true) ∧ (sg k = -1 → FloatKind.f64.format.order v 0 = some .lt)) ∧ (FloatKind.f64.format.order n t = some .gt ∧ ((FloatKind.f64.format.order n z0 == some .lt) = false ∨ (FloatKind.f64.format.order n z0 = some .lt ∧ ∃ hn h2, Ieee.double.sub n t = some hn ∧ hn < 18446744073709551616 ∧ Ieee.double.div st 4611686018427387904 = some h2 ∧ FloatKind.f64.format.order (absW hn) h2 = some .gt))) ∧
      Ieee.double.add t z0 = some sm ∧ Ieee.double.div sm 4611686018427387904 = some nx ∧ Ieee.double.sub nx t = some d ∧ d < 18446744073709551616 ∧
      ((FloatKind.f64.format.order (absW d) 4488077727726783735 = some .lt ∧ ∃ q, fv nx = some q ∧ Bd (q - z) (2 / 100000000)) ∨ ((FloatKind.f64.format.order (absW d) 4488077727726783735 == some .lt) = false ∧ ∀ o, SInv a b z0 sta z (i + 1) o z0 nx (absW d))) := by
  have e1 := bε.1; have e2 := bε.2
  have S1 := St_lo; have S2 := St_hi
  obtain ⟨q, n, zn, sm, nx, qx, d, qd, k1, k2, k3, k4, k5, g1, g2, g3, i1, i2, i3, g4, i4, p1, p2⟩ := down_near hz bz ht hst s1 s2 hqs hv hr ok ⟨by grind, by grind⟩
  have g5 := g4.1; have g6 := g4.2; have i5 := i4.1; have i6 := i4.2
  refine ⟨q, n, sm, nx, d, k1, k2, ⟨fun h => ord_ge hv fv_zero (by have := p1 h; grind), fun h => ord_lt hv fv_zero (p2 h)⟩, ?_, g1, g2, i1, i2, ?_⟩
  · refine ⟨ord_gt k3 ht k4, ?_⟩
    by_cases h : zn < z
    · obtain ⟨hn, ah, h2, a2, j1, j2, j3, j4, j5, j6⟩ := k5 h
      exact Or.inr ⟨ord_lt k3 hz h, hn, h2, j1, j2, j4, ord_gt j3 j5 j6⟩
    · exact Or.inl (ord_nltB k3 hz (by grind))
  · by_cases h : qd < St
    · exact Or.inl ⟨ord_lt i3 fv_St h, qx, g3, ⟨by grind, by grind⟩⟩
    · exact Or.inr ⟨ord_nltB i3 fv_St (by grind), fun o => SInv.next h59 s3 (s' := z - qx) (by grind) (by grind) (by grind) i3 (i4.mono (by decide +kernel)) (Or.inr ⟨by rw [g3]; congr 1; grind, rfl⟩)⟩

set_option maxHeartbeats 4000000 in
theorem solve_true {dec h0 sa sl cl : Nat} {δ η α σ κ : Rat} (H : DayOK dec h0 sa sl cl δ η α σ κ) (nm : ByteArray) (b5 b6 a b z0 : Nat) (qa qb z : Rat) (ha : fv a = some qa) (hb : fv b = some qb) (hz : fv z0 = some z) (bz : Bd z (101 / 100)) (ba : Bd qa (101 / 100)) (bb : Bd qb (101 / 100))
    (l1 : 1 / 2000 ≤ z - qa) (l2 : z - qa ≤ 1 / 4) (l3 : 1 / 2000 ≤ qb - z) (l4 : qb - z ≤ 1 / 4) (k : Int) (ε : Rat) (hε : η + Wr * z = (k : Rat) * (4 * Q4) + ε) (bε : Bd ε (1 / 100000000000)) (hsg : sg k = 1)
    (w : World) (hg : Glob w) (c5 : w.cell? ⟨b5, 0, none⟩ = some (.float .f64 dec)) (c6 : w.cell? ⟨b6, 0, none⟩ = some (.float .f64 h0)) :
    Calls Tryf.prog 26 #[.string nm, .func (.func 25) #[dayV b5 b6 sa sl cl] #[], .float .f64 a, .float .f64 b, .bool true, .float .f64 z0] w fun e w' => IsRoot z e ∧ Below w.heap.size w w' := by
  have q1 := Q4_lo; have q2 := Q4_hi
  have w1 := Wr_lo; have w2 := Wr_hi
  have z1 := bz.1; have z2 := bz.2; have y1 := ba.1; have y2 := ba.2; have x1 := bb.1; have x2 := bb.2
  have ε1 := bε.1; have ε2 := bε.2
  obtain ⟨st, s0, qs, vs, e0, b0⟩ := Fx.sub' 0 (6 / 10) (1 / 1000000000000000) (Fx.lit hb bb) (Fx.lit ha ba) ⟨by grind, by grind⟩ (by decide +kernel)
  have fs := runSub s0
  have lst := fv_lt vs
  have e01 := e0.1; have e02 := e0.2
  have vst : fv (absW st) = some qs := by
    rcases abs_val vs with ⟨_, h⟩ | ⟨h, h'⟩
    · exact h
    · exfalso; grind
  clear s0 vs
  obtain ⟨sta, hsta⟩ : ∃ x, x = absW st := ⟨_, rfl⟩
  rw [← hsta] at vst
  have cst : ∀ w, Calls Tryf.prog 22 #[.float .f64 st] w fun e w' => e = .returned (.float .f64 sta) ∧ w' = w := by rw [hsta]; exact abs_any st lst
  clear hsta lst
  have hstart : Hid (SInv a b z0 sta z 0 a b z0 sta) := Or.inl ⟨rfl, rfl, rfl, rfl, rfl⟩
  have hB0 : Hid (Below w.heap.size w w) := Below.refl _ _
  have F1 := fun v r qv qr hv hr ok => first_case (v := v) (r := r) (qv := qv) (qr := qr) (k := k) ha hb hz bz ba bb l1 l2 l3 l4 vst ⟨by grind, by grind⟩ (by grind) hv hr ok bε
  have FU := fun i t st qs s v r qv qr hz ht hst h59 s1 s2 s3 hqs hv hr ok => up_case (a := a) (b := b) (sta := sta) (i := i) (t := t) (st := st) (qs := qs) (s := s) (z0 := z0) (v := v) (r := r) (qv := qv) (qr := qr) (k := k) hz bz ht hst h59 s1 s2 s3 hqs hv hr ok bε
  have FD := fun i t st qs s v r qv qr hz ht hst h59 s1 s2 s3 hqs hv hr ok => down_case (a := a) (b := b) (sta := sta) (i := i) (t := t) (st := st) (qs := qs) (s := s) (z0 := z0) (v := v) (r := r) (qv := qv) (qr := qr) (k := k) hz bz ht hst h59 s1 s2 s3 hqs hv hr ok bε
  have zb : z < qb := by grind
  have az : qa < z := by grind
  have R0 := fun t (ht : fv t = some z) w hg c5 c6 => rate_any H t b5 b6 z ht (bz.mono (by decide +kernel)) k ε hε ⟨by grind, by grind⟩ w hg c5 c6
  have RU := fun t s (s1 : 115 / 10000000000 ≤ s) (s2 : s ≤ 125001 / 1000000) (ht : fv t = some (z + s)) w hg c5 c6 => rate_any H t b5 b6 (z + s) ht ⟨by grind, by grind⟩ k (ε + Wr * s) (by grind) (by
    have m1 := mul_nn (show 0 ≤ Wr by grind) (show 0 ≤ s by grind)
    have m2 := mul_nn (show 0 ≤ 6301 / 1000 - Wr by grind) (show 0 ≤ s by grind)
    exact ⟨by grind, by grind⟩) w hg c5 c6
  have RD := fun t s (s1 : 115 / 10000000000 ≤ s) (s2 : s ≤ 125001 / 1000000) (ht : fv t = some (z - s)) w hg c5 c6 => rate_any H t b5 b6 (z - s) ht ⟨by grind, by grind⟩ k (ε - Wr * s) (by grind) (by
    have m1 := mul_nn (show 0 ≤ Wr by grind) (show 0 ≤ s by grind)
    have m2 := mul_nn (show 0 ≤ 6301 / 1000 - Wr by grind) (show 0 ≤ s by grind)
    exact ⟨by grind, by grind⟩) w hg c5 c6
  have hlt : ∀ s : Rat, 115 / 10000000000 ≤ s → z < z + s ∧ z - s < z := fun s h => ⟨by grind, by grind⟩
  have hsgn : ∀ qv : Rat, 0 ≤ qv ∨ qv < 0 := fun qv => by grind
  clear l1 l2 l3 l4 ba bb q1 q2 w1 w2 z1 z2 y1 y2 x1 x2 ε1 ε2 bε hε e0 e01 e02 b0
  go_enter Tryf.func26, Tryf.ntmps26
  go_wp2_with (go_at_call 22; refine (cst _).mono ?_; rintro e w' ⟨rfl, hw⟩; rw [hw]; clear hw)
  go_loopw [2, 3, 5, 14, 15, 16, 17, 22] (fun va vb vt vs _ _ _ vi wr => ∃ (i x y t st : Nat), va = .float .f64 x ∧ vb = .float .f64 y ∧ vt = .float .f64 t ∧ vs = .float .f64 st ∧ vi = .int .i64 i ∧ SInv a b z0 sta z i x y t st ∧ Below w.heap.size w wr) (fun _ _ _ _ _ _ _ i _ => 60 - (intOf i).toNat)
  case atStart => exact ⟨0, a, b, z0, sta, rfl, rfl, rfl, rfl, rfl, hstart.out, hB0.out⟩
  case round =>
    rename World => wA
    obtain ⟨i, x, y, t, st', rfl, rfl, rfl, rfl, rfl, hinv, hbel⟩ := hrel
    have hgA : Glob wA := hg.below hbel
    have d5 := cell_in hbel c5
    have d6 := cell_in hbel c6
    rcases hinv with ⟨rfl, rfl, rfl, rfl, rfl⟩ | ⟨h1, h59, qs', s, hst, s1, s2, s3, hqs, hside⟩
    · have hR := R0 t hz wA hgA d5 d6
      go_upto_region 5 with (go_at_call 25; refine hR.mono ?_; rintro e w' ⟨⟨v, r, qv, qr, rfl, hv, hr, hok⟩, hbl⟩)
      have hB : Hid (Below w.heap.size w w') := hbel.trans (hbl.mono hbel.size)
      obtain ⟨q, n, hn, h2, k1, k2, k3, k4, k5, k6, k7, ⟨k8, k9, k10⟩, k11, k12, ⟨smu, nxu, du, g1, g2, g3, g4, g5, g6⟩, ⟨smd, nxd, dd, j1, j2, j3, j4, j5, j6⟩⟩ := F1 v r qv qr hv hr hok
      have f1 := runDiv k1
      have f2 := runSub k2
      have f3 := runSub k3
      have f5 := runDiv k5
      have cA := abs_any hn k4
      have H6 : Hid (SInv x y t st' z 1 t y nxu (absW du)) := g6
      have H7 : Hid (SInv x y t st' z 1 x t nxd (absW dd)) := j6
      have hroot : Hid (∃ q, fv n = some q ∧ Bd (q - z) (2 / 100000000)) := k8
      clear F1 FU FD k1 k2 k3 k5 g6 j6 k8 hbl hbel hok hg hgA c5 c6 d5 d6 R0 RU RD hR
      rcases hsgn qv with hp | hp
      · have o1 := ord_ge hv fv_zero hp
        have mn := runMin hz hb zb
        have mx := runMax hz hb zb
        rcases k11 with k11 | k11
        · clear hv hr hz ha hb vst
          go_wp2_with (go_at_call 22; refine (cA _).mono ?_; rintro e w'' ⟨rfl, hw⟩; rw [hw]; clear hw)
          go_ret2
          obtain ⟨qq, z3, z4⟩ := hroot.out
          exact ⟨⟨n, qq, rfl, z3, z4⟩, hB.out⟩
        · have f6 := runAdd g1
          have f7 := runDiv g2
          have f8 := runSub g3
          have cD := abs_any du g4
          clear g1 g2 g3 hv hr hz ha hb vst
          go_wp2_with (go_at_call 22; refine (cD _).mono ?_; rintro e w'' ⟨rfl, hw⟩; rw [hw]; clear hw)
          go_roundw
          case rel => exact ⟨1, t, y, nxu, absW du, rfl, rfl, rfl, rfl, by go_num, H6.out, hB.out⟩
          case measure => simp [intOf]
      · have o1 := ord_lt hv fv_zero hp
        have mn := runMin ha hz az
        have mx := runMax ha hz az
        rcases k12 with k12 | k12
        · clear hv hr hz ha hb vst
          go_wp2_with (go_at_call 22; refine (cA _).mono ?_; rintro e w'' ⟨rfl, hw⟩; rw [hw]; clear hw)
          go_ret2
          obtain ⟨qq, z3, z4⟩ := hroot.out
          exact ⟨⟨n, qq, rfl, z3, z4⟩, hB.out⟩
        · have f6 := runAdd j1
          have f7 := runDiv j2
          have f8 := runSub j3
          have cD := abs_any dd j4
          clear j1 j2 j3 hv hr hz ha hb vst
          go_wp2_with (go_at_call 22; refine (cD _).mono ?_; rintro e w'' ⟨rfl, hw⟩; rw [hw]; clear hw)
          go_roundw
          case rel => exact ⟨1, x, t, nxd, absW dd, rfl, rfl, rfl, rfl, by go_num, H7.out, hB.out⟩
          case measure => simp [intOf]
    · have i60 : (i : Int) < 60 := by omega
      have i0 : (0 : Int) ≤ (i : Int) := by omega
      clear F1 R0
      rcases hside with ⟨ht, rfl⟩ | ⟨ht, rfl⟩
      · have hR := RU t s s1 s2 ht wA hgA d5 d6
        go_upto_region 5 with (go_at_call 25; refine hR.mono ?_; rintro e w' ⟨⟨v, r, qv, qr, rfl, hv, hr, hok⟩, hbl⟩)
        have hB : Hid (Below w.heap.size w w') := hbel.trans (hbl.mono hbel.size)
        obtain ⟨q, n, sm, nx, d, k1, k2, ⟨sg1, sg2⟩, k4, g1, g2, g3, g4, hend⟩ := FU i t st' qs' s v r qv qr hz ht hst h59 s1 s2 s3 hqs hv hr hok
        have o1 := sg1 hsg
        have f1 := runDiv k1
        have f2 := runSub k2
        have f6 := runAdd g1
        have f7 := runDiv g2
        have f8 := runSub g3
        have cD := abs_any d g4
        have mn := runMin hz ht (hlt s s1).1
        have mx := runMax hz ht (hlt s s1).1
        clear FU FD k1 k2 g1 g2 g3 hbl hbel hok hg hgA c5 c6 d5 d6 RU RD hR sg1 sg2
        rcases k4 with k4 | ⟨k4, k4b, hn, h2, k5, k6, k7, k8⟩
        · skip
          rcases hend with ⟨he, hroot⟩ | ⟨he, hnx⟩
          · have hroot' : Hid (∃ q, fv nx = some q ∧ Bd (q - z) (2 / 100000000)) := hroot
            clear hroot hv hr hz ht hst ha hb vst
            go_wp2_with (go_at_call 22; refine (cD _).mono ?_; rintro e w'' ⟨rfl, hw⟩; rw [hw]; clear hw)
            go_ret2
            obtain ⟨qq, z3, z4⟩ := hroot'.out
            exact ⟨⟨nx, qq, rfl, z3, z4⟩, hB.out⟩
          · have hnx' : Hid (∀ o, SInv a b x sta z (i + 1) x o nx (absW d)) := hnx
            clear hnx hv hr hz ht hst ha hb vst
            go_wp2_with (go_at_call 22; refine (cD _).mono ?_; rintro e w'' ⟨rfl, hw⟩; rw [hw]; clear hw)
            go_roundw
            case rel => exact ⟨i + 1, x, t, nx, absW d, rfl, rfl, rfl, rfl, by go_num, hnx'.out _, hB.out⟩
            case measure => simp [intOf]; omega
        · have f3 := runSub k5
          have f5 := runDiv k7
          have cA := abs_any hn k6
          clear k5 k7
          rcases hend with ⟨he, hroot⟩ | ⟨he, hnx⟩
          · have hroot' : Hid (∃ q, fv nx = some q ∧ Bd (q - z) (2 / 100000000)) := hroot
            clear hroot hv hr hz ht hst ha hb vst
            go_wp2_with (first | (go_at_call 22; refine (cA _).mono ?_; rintro e w'' ⟨rfl, hw⟩; rw [hw]; clear hw) | (go_at_call 22; refine (cD _).mono ?_; rintro e w'' ⟨rfl, hw⟩; rw [hw]; clear hw))
            go_ret2
            obtain ⟨qq, z3, z4⟩ := hroot'.out
            exact ⟨⟨nx, qq, rfl, z3, z4⟩, hB.out⟩
          · have hnx' : Hid (∀ o, SInv a b x sta z (i + 1) x o nx (absW d)) := hnx
            clear hnx hv hr hz ht hst ha hb vst
            go_wp2_with (first | (go_at_call 22; refine (cA _).mono ?_; rintro e w'' ⟨rfl, hw⟩; rw [hw]; clear hw) | (go_at_call 22; refine (cD _).mono ?_; rintro e w'' ⟨rfl, hw⟩; rw [hw]; clear hw))
            go_roundw
            case rel => exact ⟨i + 1, x, t, nx, absW d, rfl, rfl, rfl, rfl, by go_num, hnx'.out _, hB.out⟩
            case measure => simp [intOf]; omega
      · have hR := RD t s s1 s2 ht wA hgA d5 d6
        go_upto_region 5 with (go_at_call 25; refine hR.mono ?_; rintro e w' ⟨⟨v, r, qv, qr, rfl, hv, hr, hok⟩, hbl⟩)
        have hB : Hid (Below w.heap.size w w') := hbel.trans (hbl.mono hbel.size)
        obtain ⟨q, n, sm, nx, d, k1, k2, ⟨sg1, sg2⟩, k4, g1, g2, g3, g4, hend⟩ := FD i t st' qs' s v r qv qr hz ht hst h59 s1 s2 s3 hqs hv hr hok
        have o1 := sg1 hsg
        have f1 := runDiv k1
        have f2 := runSub k2
        have f6 := runAdd g1
        have f7 := runDiv g2
        have f8 := runSub g3
        have cD := abs_any d g4
        have mn := runMin ht hz (hlt s s1).2
        have mx := runMax ht hz (hlt s s1).2
        clear FU FD k1 k2 g1 g2 g3 hbl hbel hok hg hgA c5 c6 d5 d6 RU RD hR sg1 sg2
        obtain ⟨k4', k4⟩ := k4
        rcases k4 with k4 | ⟨k4, hn, h2, k5, k6, k7, k8⟩
        · skip
          rcases hend with ⟨he, hroot⟩ | ⟨he, hnx⟩
          · have hroot' : Hid (∃ q, fv nx = some q ∧ Bd (q - z) (2 / 100000000)) := hroot
            clear hroot hv hr hz ht hst ha hb vst
            go_wp2_with (go_at_call 22; refine (cD _).mono ?_; rintro e w'' ⟨rfl, hw⟩; rw [hw]; clear hw)
            go_ret2
            obtain ⟨qq, z3, z4⟩ := hroot'.out
            exact ⟨⟨nx, qq, rfl, z3, z4⟩, hB.out⟩
          · have hnx' : Hid (∀ o, SInv a b y sta z (i + 1) o y nx (absW d)) := hnx
            clear hnx hv hr hz ht hst ha hb vst
            go_wp2_with (go_at_call 22; refine (cD _).mono ?_; rintro e w'' ⟨rfl, hw⟩; rw [hw]; clear hw)
            go_roundw
            case rel => exact ⟨i + 1, t, y, nx, absW d, rfl, rfl, rfl, rfl, by go_num, hnx'.out _, hB.out⟩
            case measure => simp [intOf]; omega
        · have f3 := runSub k5
          have f5 := runDiv k7
          have cA := abs_any hn k6
          clear k5 k7
          rcases hend with ⟨he, hroot⟩ | ⟨he, hnx⟩
          · have hroot' : Hid (∃ q, fv nx = some q ∧ Bd (q - z) (2 / 100000000)) := hroot
            clear hroot hv hr hz ht hst ha hb vst
            go_wp2_with (first | (go_at_call 22; refine (cA _).mono ?_; rintro e w'' ⟨rfl, hw⟩; rw [hw]; clear hw) | (go_at_call 22; refine (cD _).mono ?_; rintro e w'' ⟨rfl, hw⟩; rw [hw]; clear hw))
            go_ret2
            obtain ⟨qq, z3, z4⟩ := hroot'.out
            exact ⟨⟨nx, qq, rfl, z3, z4⟩, hB.out⟩
          · have hnx' : Hid (∀ o, SInv a b y sta z (i + 1) o y nx (absW d)) := hnx
            clear hnx hv hr hz ht hst ha hb vst
            go_wp2_with (first | (go_at_call 22; refine (cA _).mono ?_; rintro e w'' ⟨rfl, hw⟩; rw [hw]; clear hw) | (go_at_call 22; refine (cD _).mono ?_; rintro e w'' ⟨rfl, hw⟩; rw [hw]; clear hw))
            go_roundw
            case rel => exact ⟨i + 1, t, y, nx, absW d, rfl, rfl, rfl, rfl, by go_num, hnx'.out _, hB.out⟩
            case measure => simp [intOf]; omega

set_option maxHeartbeats 4000000 in
theorem solve_false {dec h0 sa sl cl : Nat} {δ η α σ κ : Rat} (H : DayOK dec h0 sa sl cl δ η α σ κ) (nm : ByteArray) (b5 b6 a b z0 : Nat) (qa qb z : Rat) (ha : fv a = some qa) (hb : fv b = some qb) (hz : fv z0 = some z) (bz : Bd z (101 / 100)) (ba : Bd qa (101 / 100)) (bb : Bd qb (101 / 100))
    (l1 : 1 / 2000 ≤ z - qa) (l2 : z - qa ≤ 1 / 4) (l3 : 1 / 2000 ≤ qb - z) (l4 : qb - z ≤ 1 / 4) (k : Int) (ε : Rat) (hε : η + Wr * z = (k : Rat) * (4 * Q4) + ε) (bε : Bd ε (1 / 100000000000)) (hsg : sg k = -1)
    (w : World) (hg : Glob w) (c5 : w.cell? ⟨b5, 0, none⟩ = some (.float .f64 dec)) (c6 : w.cell? ⟨b6, 0, none⟩ = some (.float .f64 h0)) :
    Calls Tryf.prog 26 #[.string nm, .func (.func 25) #[dayV b5 b6 sa sl cl] #[], .float .f64 a, .float .f64 b, .bool false, .float .f64 z0] w fun e w' => IsRoot z e ∧ Below w.heap.size w w' := by
  have q1 := Q4_lo; have q2 := Q4_hi
  have w1 := Wr_lo; have w2 := Wr_hi
  have z1 := bz.1; have z2 := bz.2; have y1 := ba.1; have y2 := ba.2; have x1 := bb.1; have x2 := bb.2
  have ε1 := bε.1; have ε2 := bε.2
  obtain ⟨st, s0, qs, vs, e0, b0⟩ := Fx.sub' 0 (6 / 10) (1 / 1000000000000000) (Fx.lit hb bb) (Fx.lit ha ba) ⟨by grind, by grind⟩ (by decide +kernel)
  have fs := runSub s0
  have lst := fv_lt vs
  have e01 := e0.1; have e02 := e0.2
  have vst : fv (absW st) = some qs := by
    rcases abs_val vs with ⟨_, h⟩ | ⟨h, h'⟩
    · exact h
    · exfalso; grind
  clear s0 vs
  obtain ⟨sta, hsta⟩ : ∃ x, x = absW st := ⟨_, rfl⟩
  rw [← hsta] at vst
  have cst : ∀ w, Calls Tryf.prog 22 #[.float .f64 st] w fun e w' => e = .returned (.float .f64 sta) ∧ w' = w := by rw [hsta]; exact abs_any st lst
  clear hsta lst
  have hstart : Hid (SInv a b z0 sta z 0 a b z0 sta) := Or.inl ⟨rfl, rfl, rfl, rfl, rfl⟩
  have hB0 : Hid (Below w.heap.size w w) := Below.refl _ _
  have F1 := fun v r qv qr hv hr ok => first_case (v := v) (r := r) (qv := qv) (qr := qr) (k := k) ha hb hz bz ba bb l1 l2 l3 l4 vst ⟨by grind, by grind⟩ (by grind) hv hr ok bε
  have FU := fun i t st qs s v r qv qr hz ht hst h59 s1 s2 s3 hqs hv hr ok => up_case (a := a) (b := b) (sta := sta) (i := i) (t := t) (st := st) (qs := qs) (s := s) (z0 := z0) (v := v) (r := r) (qv := qv) (qr := qr) (k := k) hz bz ht hst h59 s1 s2 s3 hqs hv hr ok bε
  have FD := fun i t st qs s v r qv qr hz ht hst h59 s1 s2 s3 hqs hv hr ok => down_case (a := a) (b := b) (sta := sta) (i := i) (t := t) (st := st) (qs := qs) (s := s) (z0 := z0) (v := v) (r := r) (qv := qv) (qr := qr) (k := k) hz bz ht hst h59 s1 s2 s3 hqs hv hr ok bε
  have zb : z < qb := by grind
  have az : qa < z := by grind
  have R0 := fun t (ht : fv t = some z) w hg c5 c6 => rate_any H t b5 b6 z ht (bz.mono (by decide +kernel)) k ε hε ⟨by grind, by grind⟩ w hg c5 c6
  have RU := fun t s (s1 : 115 / 10000000000 ≤ s) (s2 : s ≤ 125001 / 1000000) (ht : fv t = some (z + s)) w hg c5 c6 => rate_any H t b5 b6 (z + s) ht ⟨by grind, by grind⟩ k (ε + Wr * s) (by grind) (by
    have m1 := mul_nn (show 0 ≤ Wr by grind) (show 0 ≤ s by grind)
    have m2 := mul_nn (show 0 ≤ 6301 / 1000 - Wr by grind) (show 0 ≤ s by grind)
    exact ⟨by grind, by grind⟩) w hg c5 c6
  have RD := fun t s (s1 : 115 / 10000000000 ≤ s) (s2 : s ≤ 125001 / 1000000) (ht : fv t = some (z - s)) w hg c5 c6 => rate_any H t b5 b6 (z - s) ht ⟨by grind, by grind⟩ k (ε - Wr * s) (by grind) (by
    have m1 := mul_nn (show 0 ≤ Wr by grind) (show 0 ≤ s by grind)
    have m2 := mul_nn (show 0 ≤ 6301 / 1000 - Wr by grind) (show 0 ≤ s by grind)
    exact ⟨by grind, by grind⟩) w hg c5 c6
  have hlt : ∀ s : Rat, 115 / 10000000000 ≤ s → z < z + s ∧ z - s < z := fun s h => ⟨by grind, by grind⟩
  have hsgn : ∀ qv : Rat, 0 ≤ qv ∨ qv < 0 := fun qv => by grind
  clear l1 l2 l3 l4 ba bb q1 q2 w1 w2 z1 z2 y1 y2 x1 x2 ε1 ε2 bε hε e0 e01 e02 b0
  go_enter Tryf.func26, Tryf.ntmps26
  go_wp2_with (go_at_call 22; refine (cst _).mono ?_; rintro e w' ⟨rfl, hw⟩; rw [hw]; clear hw)
  go_loopw [2, 3, 5, 14, 15, 16, 17, 22] (fun va vb vt vs _ _ _ vi wr => ∃ (i x y t st : Nat), va = .float .f64 x ∧ vb = .float .f64 y ∧ vt = .float .f64 t ∧ vs = .float .f64 st ∧ vi = .int .i64 i ∧ SInv a b z0 sta z i x y t st ∧ Below w.heap.size w wr) (fun _ _ _ _ _ _ _ i _ => 60 - (intOf i).toNat)
  case atStart => exact ⟨0, a, b, z0, sta, rfl, rfl, rfl, rfl, rfl, hstart.out, hB0.out⟩
  case round =>
    rename World => wA
    obtain ⟨i, x, y, t, st', rfl, rfl, rfl, rfl, rfl, hinv, hbel⟩ := hrel
    have hgA : Glob wA := hg.below hbel
    have d5 := cell_in hbel c5
    have d6 := cell_in hbel c6
    rcases hinv with ⟨rfl, rfl, rfl, rfl, rfl⟩ | ⟨h1, h59, qs', s, hst, s1, s2, s3, hqs, hside⟩
    · have hR := R0 t hz wA hgA d5 d6
      go_upto_region 5 with (go_at_call 25; refine hR.mono ?_; rintro e w' ⟨⟨v, r, qv, qr, rfl, hv, hr, hok⟩, hbl⟩)
      have hB : Hid (Below w.heap.size w w') := hbel.trans (hbl.mono hbel.size)
      obtain ⟨q, n, hn, h2, k1, k2, k3, k4, k5, k6, k7, ⟨k8, k9, k10⟩, k11, k12, ⟨smu, nxu, du, g1, g2, g3, g4, g5, g6⟩, ⟨smd, nxd, dd, j1, j2, j3, j4, j5, j6⟩⟩ := F1 v r qv qr hv hr hok
      have f1 := runDiv k1
      have f2 := runSub k2
      have f3 := runSub k3
      have f5 := runDiv k5
      have cA := abs_any hn k4
      have H6 : Hid (SInv x y t st' z 1 t y nxu (absW du)) := g6
      have H7 : Hid (SInv x y t st' z 1 x t nxd (absW dd)) := j6
      have hroot : Hid (∃ q, fv n = some q ∧ Bd (q - z) (2 / 100000000)) := k8
      clear F1 FU FD k1 k2 k3 k5 g6 j6 k8 hbl hbel hok hg hgA c5 c6 d5 d6 R0 RU RD hR
      rcases hsgn qv with hp | hp
      · have o1 := ord_ge hv fv_zero hp
        have mn := runMin ha hz az
        have mx := runMax ha hz az
        rcases k12 with k12 | k12
        · clear hv hr hz ha hb vst
          go_wp2_with (go_at_call 22; refine (cA _).mono ?_; rintro e w'' ⟨rfl, hw⟩; rw [hw]; clear hw)
          go_ret2
          obtain ⟨qq, z3, z4⟩ := hroot.out
          exact ⟨⟨n, qq, rfl, z3, z4⟩, hB.out⟩
        · have f6 := runAdd j1
          have f7 := runDiv j2
          have f8 := runSub j3
          have cD := abs_any dd j4
          clear j1 j2 j3 hv hr hz ha hb vst
          go_wp2_with (go_at_call 22; refine (cD _).mono ?_; rintro e w'' ⟨rfl, hw⟩; rw [hw]; clear hw)
          go_roundw
          case rel => exact ⟨1, x, t, nxd, absW dd, rfl, rfl, rfl, rfl, by go_num, H7.out, hB.out⟩
          case measure => simp [intOf]
      · have o1 := ord_lt hv fv_zero hp
        have mn := runMin hz hb zb
        have mx := runMax hz hb zb
        rcases k11 with k11 | k11
        · clear hv hr hz ha hb vst
          go_wp2_with (go_at_call 22; refine (cA _).mono ?_; rintro e w'' ⟨rfl, hw⟩; rw [hw]; clear hw)
          go_ret2
          obtain ⟨qq, z3, z4⟩ := hroot.out
          exact ⟨⟨n, qq, rfl, z3, z4⟩, hB.out⟩
        · have f6 := runAdd g1
          have f7 := runDiv g2
          have f8 := runSub g3
          have cD := abs_any du g4
          clear g1 g2 g3 hv hr hz ha hb vst
          go_wp2_with (go_at_call 22; refine (cD _).mono ?_; rintro e w'' ⟨rfl, hw⟩; rw [hw]; clear hw)
          go_roundw
          case rel => exact ⟨1, t, y, nxu, absW du, rfl, rfl, rfl, rfl, by go_num, H6.out, hB.out⟩
          case measure => simp [intOf]
    · have i60 : (i : Int) < 60 := by omega
      have i0 : (0 : Int) ≤ (i : Int) := by omega
      clear F1 R0
      rcases hside with ⟨ht, rfl⟩ | ⟨ht, rfl⟩
      · have hR := RU t s s1 s2 ht wA hgA d5 d6
        go_upto_region 5 with (go_at_call 25; refine hR.mono ?_; rintro e w' ⟨⟨v, r, qv, qr, rfl, hv, hr, hok⟩, hbl⟩)
        have hB : Hid (Below w.heap.size w w') := hbel.trans (hbl.mono hbel.size)
        obtain ⟨q, n, sm, nx, d, k1, k2, ⟨sg1, sg2⟩, k4, g1, g2, g3, g4, hend⟩ := FU i t st' qs' s v r qv qr hz ht hst h59 s1 s2 s3 hqs hv hr hok
        have o1 := sg2 hsg
        have f1 := runDiv k1
        have f2 := runSub k2
        have f6 := runAdd g1
        have f7 := runDiv g2
        have f8 := runSub g3
        have cD := abs_any d g4
        have mn := runMin hz ht (hlt s s1).1
        have mx := runMax hz ht (hlt s s1).1
        clear FU FD k1 k2 g1 g2 g3 hbl hbel hok hg hgA c5 c6 d5 d6 RU RD hR sg1 sg2
        rcases k4 with k4 | ⟨k4, k4b, hn, h2, k5, k6, k7, k8⟩
        · skip
          rcases hend with ⟨he, hroot⟩ | ⟨he, hnx⟩
          · have hroot' : Hid (∃ q, fv nx = some q ∧ Bd (q - z) (2 / 100000000)) := hroot
            clear hroot hv hr hz ht hst ha hb vst
            go_wp2_with (go_at_call 22; refine (cD _).mono ?_; rintro e w'' ⟨rfl, hw⟩; rw [hw]; clear hw)
            go_ret2
            obtain ⟨qq, z3, z4⟩ := hroot'.out
            exact ⟨⟨nx, qq, rfl, z3, z4⟩, hB.out⟩
          · have hnx' : Hid (∀ o, SInv a b x sta z (i + 1) x o nx (absW d)) := hnx
            clear hnx hv hr hz ht hst ha hb vst
            go_wp2_with (go_at_call 22; refine (cD _).mono ?_; rintro e w'' ⟨rfl, hw⟩; rw [hw]; clear hw)
            go_roundw
            case rel => exact ⟨i + 1, x, t, nx, absW d, rfl, rfl, rfl, rfl, by go_num, hnx'.out _, hB.out⟩
            case measure => simp [intOf]; omega
        · have f3 := runSub k5
          have f5 := runDiv k7
          have cA := abs_any hn k6
          clear k5 k7
          rcases hend with ⟨he, hroot⟩ | ⟨he, hnx⟩
          · have hroot' : Hid (∃ q, fv nx = some q ∧ Bd (q - z) (2 / 100000000)) := hroot
            clear hroot hv hr hz ht hst ha hb vst
            go_wp2_with (first | (go_at_call 22; refine (cA _).mono ?_; rintro e w'' ⟨rfl, hw⟩; rw [hw]; clear hw) | (go_at_call 22; refine (cD _).mono ?_; rintro e w'' ⟨rfl, hw⟩; rw [hw]; clear hw))
            go_ret2
            obtain ⟨qq, z3, z4⟩ := hroot'.out
            exact ⟨⟨nx, qq, rfl, z3, z4⟩, hB.out⟩
          · have hnx' : Hid (∀ o, SInv a b x sta z (i + 1) x o nx (absW d)) := hnx
            clear hnx hv hr hz ht hst ha hb vst
            go_wp2_with (first | (go_at_call 22; refine (cA _).mono ?_; rintro e w'' ⟨rfl, hw⟩; rw [hw]; clear hw) | (go_at_call 22; refine (cD _).mono ?_; rintro e w'' ⟨rfl, hw⟩; rw [hw]; clear hw))
            go_roundw
            case rel => exact ⟨i + 1, x, t, nx, absW d, rfl, rfl, rfl, rfl, by go_num, hnx'.out _, hB.out⟩
            case measure => simp [intOf]; omega
      · have hR := RD t s s1 s2 ht wA hgA d5 d6
        go_upto_region 5 with (go_at_call 25; refine hR.mono ?_; rintro e w' ⟨⟨v, r, qv, qr, rfl, hv, hr, hok⟩, hbl⟩)
        have hB : Hid (Below w.heap.size w w') := hbel.trans (hbl.mono hbel.size)
        obtain ⟨q, n, sm, nx, d, k1, k2, ⟨sg1, sg2⟩, k4, g1, g2, g3, g4, hend⟩ := FD i t st' qs' s v r qv qr hz ht hst h59 s1 s2 s3 hqs hv hr hok
        have o1 := sg2 hsg
        have f1 := runDiv k1
        have f2 := runSub k2
        have f6 := runAdd g1
        have f7 := runDiv g2
        have f8 := runSub g3
        have cD := abs_any d g4
        have mn := runMin ht hz (hlt s s1).2
        have mx := runMax ht hz (hlt s s1).2
        clear FU FD k1 k2 g1 g2 g3 hbl hbel hok hg hgA c5 c6 d5 d6 RU RD hR sg1 sg2
        obtain ⟨k4', k4⟩ := k4
        rcases k4 with k4 | ⟨k4, hn, h2, k5, k6, k7, k8⟩
        · skip
          rcases hend with ⟨he, hroot⟩ | ⟨he, hnx⟩
          · have hroot' : Hid (∃ q, fv nx = some q ∧ Bd (q - z) (2 / 100000000)) := hroot
            clear hroot hv hr hz ht hst ha hb vst
            go_wp2_with (go_at_call 22; refine (cD _).mono ?_; rintro e w'' ⟨rfl, hw⟩; rw [hw]; clear hw)
            go_ret2
            obtain ⟨qq, z3, z4⟩ := hroot'.out
            exact ⟨⟨nx, qq, rfl, z3, z4⟩, hB.out⟩
          · have hnx' : Hid (∀ o, SInv a b y sta z (i + 1) o y nx (absW d)) := hnx
            clear hnx hv hr hz ht hst ha hb vst
            go_wp2_with (go_at_call 22; refine (cD _).mono ?_; rintro e w'' ⟨rfl, hw⟩; rw [hw]; clear hw)
            go_roundw
            case rel => exact ⟨i + 1, t, y, nx, absW d, rfl, rfl, rfl, rfl, by go_num, hnx'.out _, hB.out⟩
            case measure => simp [intOf]; omega
        · have f3 := runSub k5
          have f5 := runDiv k7
          have cA := abs_any hn k6
          clear k5 k7
          rcases hend with ⟨he, hroot⟩ | ⟨he, hnx⟩
          · have hroot' : Hid (∃ q, fv nx = some q ∧ Bd (q - z) (2 / 100000000)) := hroot
            clear hroot hv hr hz ht hst ha hb vst
            go_wp2_with (first | (go_at_call 22; refine (cA _).mono ?_; rintro e w'' ⟨rfl, hw⟩; rw [hw]; clear hw) | (go_at_call 22; refine (cD _).mono ?_; rintro e w'' ⟨rfl, hw⟩; rw [hw]; clear hw))
            go_ret2
            obtain ⟨qq, z3, z4⟩ := hroot'.out
            exact ⟨⟨nx, qq, rfl, z3, z4⟩, hB.out⟩
          · have hnx' : Hid (∀ o, SInv a b y sta z (i + 1) o y nx (absW d)) := hnx
            clear hnx hv hr hz ht hst ha hb vst
            go_wp2_with (first | (go_at_call 22; refine (cA _).mono ?_; rintro e w'' ⟨rfl, hw⟩; rw [hw]; clear hw) | (go_at_call 22; refine (cD _).mono ?_; rintro e w'' ⟨rfl, hw⟩; rw [hw]; clear hw))
            go_roundw
            case rel => exact ⟨i + 1, t, y, nx, absW d, rfl, rfl, rfl, rfl, by go_num, hnx'.out _, hB.out⟩
            case measure => simp [intOf]; omega

end Go.Proofs.Qxb6609382aFmt.W
