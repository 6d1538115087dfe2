import Derived.Test.Qxb6609382aFmtU
import Derived.Test.Qxb6609382aFmtX
namespace Go.Proofs.Qxb6609382aFmt.W
open Go.RowKit Go.Proofs.Qxb6609382aFmt.Fl

theorem i3 : (Tryf.prog.info? 3).map (fun i => (i.zero, i.size, i.bytes)) = some (some (.int .i64 0), 1, 8) := by kernel_rfl
theorem one_cellI {t : Int} : ∀ v ∈ [Value.int .i64 t], v.oneCell' = true := by
  intro v hv
  simp at hv
  subst hv; rfl
theorem one_liesI {w : World} {t : Int} {ty : TypeId} {n : Nat} (hn : n = w.heap.size) : ∀ j v, [Value.int .i64 t][j]? = some v → (w.alloc (.cells #[.int .i64 t] ty)).cell? ((⟨n, 0, none⟩ : Addr).add j) = some v := by
  intro j v hv
  have : (w.alloc (.cells #[.int .i64 t] ty)).cell? ⟨n, j, none⟩ = some v := by
    rw [World.cell?_alloc_at _ _ _ _ hn]
    simpa using hv
  cases j <;> simpa [Addr.add] using this

/-- The indices of the culminations in the day. -/
def cellsI (N0 : Nat) : Nat → List Value
  | 0 => []
  | n + 1 => cellsI N0 n ++ [.int .i64 ((N0 + n : Nat) : Int)]
theorem cellsI_at (N0 : Nat) : ∀ n m, m < n → (cellsI N0 n)[m]? = some (.int .i64 ((N0 + m : Nat) : Int))
  | 0, m, h => absurd h (by omega)
  | n + 1, m, h => by
    have hl : ∀ n, (cellsI N0 n).length = n := fun n => by
      induction n with
      | zero => rfl
      | succ n ih => rw [cellsI, List.length_append, ih]; rfl
    rw [cellsI]
    by_cases hm : m = n
    · subst hm
      rw [List.getElem?_append_right (by rw [hl]; omega), hl]; simp
    · rw [List.getElem?_append_left (by rw [hl]; omega)]
      exact cellsI_at N0 n m (by omega)

/-- Which culminations of the list lie in the day. -/
theorem day_ix {η : Rat} {k : Int} {n : Nat} {T Hh : Nat → Nat} (hC : Culms η k n T Hh) : ∃ N0, N0 ≤ 1 ∧ (n - 1 - N0 = 2 ∨ n - 1 - N0 = 3) ∧ N0 < n ∧ (∀ m, m < N0 → fv (T m) = some (wv (T m)) ∧ wv (T m) ≤ 0) ∧ (∀ m, N0 ≤ m → m < n → fv (T m) = some (wv (T m)) ∧ 0 < wv (T m)) ∧ (∀ m, m + 1 < n → wv (T m) < 1) ∧ 1 ≤ wv (T (n - 1)) ∧ ∀ N1, N1 ≤ 1 → EndOK η k N1 0 → N1 = N0 := by
  obtain ⟨hall, hlt, hge, n1, n4, hbk⟩ := hC
  have hA : ∀ m, m < n → At η k m (T m) := fun m hm => At_of (hall m hm)
  have hg1 : 1 ≤ wv (T (n - 1)) := by obtain ⟨τ, v1, v2⟩ := hge; rw [(fv_wv v1).2]; exact v2
  have n34' := n34 hA hg1 n1 n4 hbk
  have hl1 : ∀ m, m + 1 < n → wv (T m) < 1 := fun m hm => by obtain ⟨τ, v1, v2⟩ := hlt m hm; rw [(fv_wv v1).2]; exact v2
  obtain ⟨p0, a0, b0⟩ := hA 0 (by omega)
  have q1 := Q4_lo; have q2 := Q4_hi; have w1 := Wr_lo; have w2 := Wr_hi; have f1 := hbk.1; have f2 := hbk.2
  have a01 := a0.1; have a02 := a0.2
  simp only [Wr] at a01 a02
  simp at a01 a02
  have hpos : ∀ m, 1 ≤ m → m < n → 0 < wv (T m) := fun m hm hmn => by
    obtain ⟨p, a, b⟩ := hA m hmn
    have a1 := a.1; have a2 := a.2
    have cm : (1 : Rat) ≤ (m : Rat) := by exact_mod_cast hm
    have hm4 := Rat.mul_le_mul_of_nonneg_right cm (show (0 : Rat) ≤ 4 * Q4 by grind)
    simp only [Wr] at a1 a2
    grind
  have h3 : n = 3 → 0 < wv (T 0) := fun hn => by
    subst hn
    obtain ⟨p, a, b⟩ := hA 2 (by omega)
    have a1 := a.1; have a2 := a.2
    simp only [Wr] at a1 a2
    have hg1' : 1 ≤ wv (T 2) := hg1
    have e2 : ((2 : Nat) : Rat) = 2 := rfl
    rw [e2] at a1 a2
    grind
  have hend : ∀ N1, N1 ≤ 1 → EndOK η k N1 0 → (N1 = 0 ∧ 0 < wv (T 0)) ∨ (N1 = 1 ∧ wv (T 0) < 0) := fun N1 hN hE => by
    obtain ⟨τ, v, _, _, e1, e2⟩ := hE
    have hz : τ = 0 := by have := fv_zero.symm.trans v; simpa using this.symm
    subst hz
    have hc : N1 = 0 ∨ N1 = 1 := by omega
    rcases hc with rfl | rfl
    · refine Or.inl ⟨rfl, ?_⟩
      simp at e1 e2
      grind
    · refine Or.inr ⟨rfl, ?_⟩
      have e3 : ((1 : Nat) : Rat) = 1 := rfl
      rw [e3] at e1 e2
      simp at e1 e2
      grind
  by_cases h0 : 0 < wv (T 0)
  · refine ⟨0, by omega, by omega, by omega, fun m hm => absurd hm (by omega), fun m _ hmn => ⟨(hA m hmn).1, ?_⟩, hl1, hg1, fun N1 hN hE => ?_⟩
    · by_cases hm : m = 0
      · subst hm; exact h0
      · exact hpos m (by omega) hmn
    · rcases hend N1 hN hE with ⟨h, _⟩ | ⟨_, h⟩
      · exact h
      · exfalso; grind
  · have hn4 : n = 4 := by
      rcases n34' with h | h
      · exact absurd (h3 h) h0
      · exact h
    refine ⟨1, by omega, by omega, by omega, fun m hm => ?_, fun m hm hmn => ⟨(hA m hmn).1, hpos m hm hmn⟩, hl1, hg1, fun N1 hN hE => ?_⟩
    · have : m = 0 := by omega
      subst this
      exact ⟨p0, by grind⟩
    · rcases hend N1 hN hE with ⟨_, h⟩ | ⟨h, _⟩
      · exact absurd h h0
      · exact h

/-- A turning point beside its culmination. -/
theorem turn_at {η : Rat} {k : Int} {m t r h hh' : Nat} (bh : Bd η 64) (hbk : Bd ((k : Rat) * (4 * Q4) - η) (1571 / 1000)) (hm : m ≤ 4) (hc : CulmOK η (k + m) t hh') (ht : TurnOK η t r h) :
    (∃ d x, Ieee.double.sub r t = some d ∧ fv d = some x ∧ Bd x (wv 4502148214488346440)) ∧ (∃ q, fv h = some q ∧ -26 ≤ k + m ∧ k + m ≤ 26 ∧ Bd (q - ((k + (m : Int) : Int) : Rat) * (4 * Q4)) (15 / 100000000)) := by
  obtain ⟨τ, q, u1, u2, u3, u4, u5⟩ := hc
  obtain ⟨ρ, qh, s1, s2, s3, s4⟩ := ht
  rw [(fv_wv u1).2] at s3
  have e7 := e7_lo
  have x1 := u4.1; have x2 := u4.2; have y1 := s3.1; have y2 := s3.2; have z1 := s4.1; have z2 := s4.2; have p1 := u5.1; have p2 := u5.2; have h1 := bh.1; have h2 := bh.2; have f1 := hbk.1; have f2 := hbk.2
  simp only [Wr] at x1 x2 z1 z2
  constructor
  · obtain ⟨d, e1, f1⟩ := Fx.sub' 0 (8 / 100000000) (1 / 100000000000000) (Fx.lit s1 (A := 2) ⟨by grind, by grind⟩) (Fx.lit u1 u5) ⟨by grind, by grind⟩ (by decide +kernel)
    obtain ⟨x, v, e, _⟩ := f1
    have e3 := e.1; have e4 := e.2
    exact ⟨d, x, e1, v, ⟨by grind, by grind⟩⟩
  · have hk1 : -22 ≤ k := by
      rcases Int.lt_or_le k (-22) with h | h
      · exfalso
        have c := castI (show k ≤ -23 by omega)
        simp only [Q4] at f1 f2
        simp at c
        grind
      · exact h
    have hk2 : k ≤ 22 := by
      rcases Int.lt_or_le 22 k with h | h
      · exfalso
        have c := castI (show 23 ≤ k by omega)
        simp only [Q4] at f1 f2
        simp at c
        grind
      · exact h
    exact ⟨qh, s2, by omega, by omega, ⟨by grind, by grind⟩⟩

theorem fv_pe : fv 4614256654300246035 = some (wv 4614256654300246035) := by decide +kernel
theorem pe_hi : wv 4614256654300246035 ≤ TP / 2 - 9 / 10000000 := by decide +kernel

theorem absf_ge (x c : Nat) (q b : Rat) (hx : fv x = some q) (hc : fv c = some b) (h : b ≤ q ∨ b ≤ -q) : ∀ w, Calls Tryf.prog 10 #[.float .f64 x] w fun e w' => (∃ r, e = .returned (.float .f64 r) ∧ (FloatKind.f64.format.order r c == some .gt || FloatKind.f64.format.order r c == some .eq) = true) ∧ w' = w := fun w => (absf_any x q hx w).mono (by
  rintro e w' ⟨⟨r, a, rfl, hr, ha⟩, rfl⟩
  refine ⟨⟨r, rfl, ?_⟩, rfl⟩
  exact ord_ge hr hc (by rcases ha with ⟨_, rfl⟩ | ⟨_, rfl⟩ <;> grind))

/-- What the law asks of the hour angle carried toward zero. -/
def TzFit (K : Int) (r : Nat) : Prop := (K % 2 = 0 ∧ ∀ w, Calls Tryf.prog 10 #[.float .f64 r] w fun e w' => (∃ s, e = .returned (.float .f64 s) ∧ (FloatKind.f64.format.order s 4517329193108106637 == some .lt || FloatKind.f64.format.order s 4517329193108106637 == some .eq) = true) ∧ w' = w) ∨
  (K % 2 = 1 ∧ ∀ w, Calls Tryf.prog 10 #[.float .f64 r] w fun e w' => (∃ s, e = .returned (.float .f64 s) ∧ (FloatKind.f64.format.order s 4614256654300246035 == some .gt || FloatKind.f64.format.order s 4614256654300246035 == some .eq) = true) ∧ w' = w)

theorem TzFit.even {K : Int} {r : Nat} (h : TzFit K r) (hp : K % 2 = 0) : ∀ w, Calls Tryf.prog 10 #[.float .f64 r] w fun e w' => (∃ s, e = .returned (.float .f64 s) ∧ (FloatKind.f64.format.order s 4517329193108106637 == some .lt || FloatKind.f64.format.order s 4517329193108106637 == some .eq) = true) ∧ w' = w := by
  rcases h with ⟨_, h⟩ | ⟨h1, _⟩
  · exact h
  · omega
theorem TzFit.odd {K : Int} {r : Nat} (h : TzFit K r) (hp : ¬ K % 2 = 0) : ∀ w, Calls Tryf.prog 10 #[.float .f64 r] w fun e w' => (∃ s, e = .returned (.float .f64 s) ∧ (FloatKind.f64.format.order s 4614256654300246035 == some .gt || FloatKind.f64.format.order s 4614256654300246035 == some .eq) = true) ∧ w' = w := by
  rcases h with ⟨h1, _⟩ | ⟨_, h⟩
  · omega
  · exact h

theorem tz_fit (x : Nat) (a : Rat) (K : Int) (hx : fv x = some a) (h1 : -26 ≤ K) (h2 : K ≤ 26) (hb : Bd (a - (K : Rat) * (4 * Q4)) (15 / 100000000)) (w : World) :
    Calls Tryf.prog 15 #[.float .f64 x] w fun e w' => (∃ r, e = .returned (.tuple #[.float .f64 r, .bool true]) ∧ TzFit K r) ∧ w' = w := (tz_walk x a K hx h1 h2 hb w).mono (by
  rintro e w' ⟨⟨r, q, rfl, hr, hq⟩, rfl⟩
  refine ⟨⟨r, rfl, ?_⟩, rfl⟩
  have e6 := e6_lo; have pe := pe_hi
  rcases hq with ⟨hk, hq⟩ | ⟨hk, hq⟩
  · have q1 := hq.1; have q2 := hq.2
    exact Or.inl ⟨hk, absf_le r _ q _ hr fv_e6 ⟨by grind, by grind⟩⟩
  · exact Or.inr ⟨hk, absf_ge r _ q _ hr fv_pe (by grind)⟩)

end Go.Proofs.Qxb6609382aFmt.W
