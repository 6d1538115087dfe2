import Derived.Test.Qxb6609382aFmtP
import Derived.Test.Qxb6609382aFmtN
import Derived.Test.Qxb6609382aFmtFv
namespace Go.Proofs.Qxb6609382aFmt.W
open Go.RowKit Go.Proofs.Qxb6609382aFmt.Fl
attribute [local go_sem] run_store_float

theorem i22 : (Tryf.prog.info? 22).map (fun i => (i.zero, i.size, i.bytes)) = some (some (.float .f64 0), 1, 8) := by kernel_rfl
theorem i4b : (Tryf.prog.info? 4).map (fun i => (i.zero, i.size, i.bytes)) = some (some (.bool false), 1, 1) := by kernel_rfl
theorem one_cell {t : Nat} : ∀ v ∈ [Value.float .f64 t], v.oneCell' = true := by
  intro v hv
  simp at hv
  subst hv; rfl
theorem one_lies {w : World} {t : Nat} {ty : TypeId} {n : Nat} (hn : n = w.heap.size) : ∀ j v, [Value.float .f64 t][j]? = some v → (w.alloc (.cells #[.float .f64 t] ty)).cell? ((⟨n, 0, none⟩ : Addr).add j) = some v := by
  intro j v hv
  have : (w.alloc (.cells #[.float .f64 t] ty)).cell? ⟨n, j, none⟩ = some v := by
    rw [World.cell?_alloc_at _ _ _ _ hn]
    simpa using hv
  cases j <;> simpa [Addr.add] using this

def flt (x : Nat) : Value := .float .f64 x
theorem cells4_at (T Hh : Nat → Nat) (dec : Nat) (k : Int) : ∀ n m, m < n → (cells4 T Hh dec k n)[m * 4]? = some (.float .f64 (T m)) ∧ (cells4 T Hh dec k n)[m * 4 + 1]? = some (.float .f64 dec) ∧ (cells4 T Hh dec k n)[m * 4 + 2]? = some (.float .f64 (Hh m)) ∧ (cells4 T Hh dec k n)[m * 4 + 3]? = some (.bool (decide ((k + m) % 2 = 0)))
  | 0, m, h => absurd h (by omega)
  | n + 1, m, h => by
    have hl : ∀ n, (cells4 T Hh dec k n).length = n * 4 := fun n => by
      induction n with
      | zero => rfl
      | succ n ih => rw [cells4, List.length_append, ih]; simp; omega
    rw [cells4]
    by_cases hm : m = n
    · subst hm
      refine ⟨?_, ?_, ?_, ?_⟩ <;> rw [List.getElem?_append_right (by rw [hl]; omega), hl] <;> simp
    · obtain ⟨h1, h2, h3, h4⟩ := cells4_at T Hh dec k n m (by omega)
      refine ⟨?_, ?_, ?_, ?_⟩ <;> rw [List.getElem?_append_left (by rw [hl]; omega)] <;> assumption

theorem At_of {η : Rat} {k : Int} {m t h : Nat} (hc : CulmOK η (k + m) t h) : At η k m t := by
  obtain ⟨τ, q, v1, v2, v3, v4, v5⟩ := hc
  obtain ⟨h1, h2⟩ := fv_wv v1
  have o : ((k + (m : Int) : Int) : Rat) = (k : Rat) + (m : Rat) := by rw [Rat.intCast_add]; rfl
  rw [o] at v4
  have x1 := v4.1; have x2 := v4.2
  refine ⟨h1, ?_, by rw [h2]; exact v5⟩
  rw [h2]
  exact ⟨by grind, by grind⟩

/-- One middle, in facts for the walk. -/
theorem mid_case {η : Rat} {k : Int} {n i : Nat} {T : Nat → Nat} (hA : ∀ m, m < n → At η k m (T m)) (hi : i + 1 < n) :
    ∃ s, Ieee.double.add (T i) (T (i + 1)) = some s ∧ Ieee.double.div s 4611686018427387904 = some (mdW (T i) (T (i + 1))) ∧
      ((FloatKind.f64.format.order (mdW (T i) (T (i + 1))) 0 = some .gt ∧ FloatKind.f64.format.order (mdW (T i) (T (i + 1))) 4607182418800017408 = some .lt ∧ els T (i + 1) = els T i ++ [mdW (T i) (T (i + 1))]) ∨
       (FloatKind.f64.format.order (mdW (T i) (T (i + 1))) 0 = some .gt ∧ (FloatKind.f64.format.order (mdW (T i) (T (i + 1))) 4607182418800017408 == some .lt) = false ∧ els T (i + 1) = els T i) ∨
       ((FloatKind.f64.format.order (mdW (T i) (T (i + 1))) 0 == some .gt) = false ∧ els T (i + 1) = els T i)) := by
  obtain ⟨p0, _, b0⟩ := hA i (by omega)
  obtain ⟨p1, _, b1⟩ := hA (i + 1) hi
  obtain ⟨s, e1, e2, e3, _⟩ := mid_wide p0 p1 b0 b1
  refine ⟨s, e1, e2, ?_⟩
  by_cases h1 : 0 < wv (mdW (T i) (T (i + 1)))
  · by_cases h2 : wv (mdW (T i) (T (i + 1))) < 1
    · exact Or.inl ⟨ord_gt e3 fv_zero h1, ord_lt e3 fv_one h2, by simp [els, incl, h1, h2]⟩
    · exact Or.inr (Or.inl ⟨ord_gt e3 fv_zero h1, ord_nltB e3 fv_one (by grind), by simp [els, incl, h2]⟩)
  · exact Or.inr (Or.inr ⟨ord_ngtB e3 fv_zero (by grind), by simp [els, incl, h1]⟩)

theorem els_len (T : Nat → Nat) : ∀ j, 1 ≤ (els T j).length ∧ (els T j).length ≤ j + 1
  | 0 => by simp [els]
  | j + 1 => by
    have := els_len T j
    rw [els]
    split <;> simp <;> omega

theorem sg_even {k : Int} (h : k % 2 = 0) : sg k = 1 := by simp [sg, h]
theorem sg_odd {k : Int} (h : ¬ k % 2 = 0) : sg k = -1 := by simp [sg, h]
/-- Is the altitude climbing at an end? -/
def IsClimb (b : Bool) (e : Ending) : Prop := ∃ v r, e = .returned (.tuple #[.float .f64 v, .float .f64 r]) ∧ (FloatKind.f64.format.order v 0 == some .gt || FloatKind.f64.format.order v 0 == some .eq) = b
theorem climb_sign {k : Int} {θ qv qr : Rat} {v : Nat} {b : Bool} (hv : fv v = some qv) (ok : RateOK k θ qv qr) (hb : (6 / 1000 ≤ -θ ∧ b = decide (k % 2 = 0)) ∨ (6 / 1000 ≤ θ ∧ b = !decide (k % 2 = 0))) :
    (FloatKind.f64.format.order v 0 == some .gt || FloatKind.f64.format.order v 0 == some .eq) = b := by
  obtain ⟨A, ν, ρ, A1, A2, rfl, _, o1, o2, o3, o4, o5, o6, o7⟩ := ok
  have pos : ∀ x : Rat, 0 < x → fv v = some x → (FloatKind.f64.format.order v 0 == some .gt || FloatKind.f64.format.order v 0 == some .eq) = true := fun x hx h => ord_ge h fv_zero (by grind)
  have neg : ∀ x : Rat, x < 0 → fv v = some x → (FloatKind.f64.format.order v 0 == some .gt || FloatKind.f64.format.order v 0 == some .eq) = false := fun x hx h => by rw [ord_lt h fv_zero hx]; rfl
  by_cases hk : k % 2 = 0
  · rw [sg_even hk] at hv
    rcases hb with ⟨h1, rfl⟩ | ⟨h1, rfl⟩
    · have := o5 h1
      have m := mul_nn (show 0 ≤ A - 2 / 1000 by grind) (show 0 ≤ ν by grind)
      simp only [hk, decide_true]
      exact pos _ (by grind) hv
    · have := o4 h1
      have m := mul_nn (show 0 ≤ A - 2 / 1000 by grind) (show 0 ≤ -ν by grind)
      simp only [hk, decide_true, Bool.not_true]
      exact neg _ (by grind) hv
  · rw [sg_odd hk] at hv
    rcases hb with ⟨h1, rfl⟩ | ⟨h1, rfl⟩
    · have := o5 h1
      have m := mul_nn (show 0 ≤ A - 2 / 1000 by grind) (show 0 ≤ ν by grind)
      simp only [hk, decide_false]
      exact neg _ (by grind) hv
    · have := o4 h1
      have m := mul_nn (show 0 ≤ A - 2 / 1000 by grind) (show 0 ≤ -ν by grind)
      simp only [hk, decide_false, Bool.not_false]
      exact pos _ (by grind) hv

theorem climb_any {dec h0 sa sl cl : Nat} {δ η α σ κ : Rat} (H : DayOK dec h0 sa sl cl δ η α σ κ) (b5 b6 e N : Nat) (k : Int) (he : EndOK η k N e)
    (w : World) (hg : Glob w) (c5 : w.cell? ⟨b5, 0, none⟩ = some (.float .f64 dec)) (c6 : w.cell? ⟨b6, 0, none⟩ = some (.float .f64 h0)) :
    Calls Tryf.prog 25 #[dayV b5 b6 sa sl cl, .float .f64 e] w fun e w' => IsClimb (decide ((k + N) % 2 = 0)) e ∧ Below w.heap.size w w' := by
  obtain ⟨τ, v1, t0, t1, x1, x2⟩ := he
  have q1 := Q4_lo; have q2 := Q4_hi
  have o : ((k + (N : Int) : Int) : Rat) = (k : Rat) + (N : Rat) := by rw [Rat.intCast_add]; rfl
  have o' : ((k + (N : Int) - 1 : Int) : Rat) = (k : Rat) + (N : Rat) - 1 := by rw [Rat.intCast_sub, o]; rfl
  by_cases hh : ((k : Rat) + (N : Rat)) * (4 * Q4) - (η + Wr * τ) ≤ 2 * Q4
  · refine (rate_any H e b5 b6 τ v1 ⟨by grind, by grind⟩ (k + N) (η + Wr * τ - ((k : Rat) + (N : Rat)) * (4 * Q4)) (by rw [o]; grind) ⟨by grind, by grind⟩ w hg c5 c6).mono ?_
    rintro e w' ⟨⟨v, r, qv, qr, rfl, hv, hr, ok⟩, hb⟩
    exact ⟨⟨v, r, rfl, climb_sign hv ok (Or.inl ⟨by grind, rfl⟩)⟩, hb⟩
  · refine (rate_any H e b5 b6 τ v1 ⟨by grind, by grind⟩ (k + N - 1) (η + Wr * τ - ((k : Rat) + (N : Rat) - 1) * (4 * Q4)) (by rw [o']; grind) ⟨by grind, by grind⟩ w hg c5 c6).mono ?_
    rintro e w' ⟨⟨v, r, qv, qr, rfl, hv, hr, ok⟩, hb⟩
    exact ⟨⟨v, r, rfl, climb_sign hv ok (Or.inr ⟨by grind, by rw [par_next]; congr 2; omega⟩)⟩, hb⟩

theorem list_at (l : List Nat) (o j : Nat) (h : j < l.length + 1) : (l.map (Value.float .f64 ·) ++ [Value.float .f64 o])[j]? = some (.float .f64 ((l ++ [o]).getD j 0)) := by
  rcases Nat.lt_or_ge j l.length with h1 | h1
  · rw [List.getElem?_append_left (by simpa using h1)]
    simp [List.getD, List.getElem?_append_left h1, h1]
  · obtain rfl : j = l.length := by omega
    rw [List.getElem?_append_right (by simp)]
    simp [List.getD]

/-- The row of Booleans, its first j set. -/
structure BRow (W : World) (b L : Nat) (f : Nat → Bool) (j : Nat) : Prop where
  there : ∀ i, i < L → ∃ x, W.cell? ⟨b, i, none⟩ = some (.bool x)
  free : ∀ i, i < L → W.frozen? ⟨b, i, none⟩ = false
  set : ∀ i, i < j → W.cell? ⟨b, i, none⟩ = some (.bool (f i))
theorem BRow.next {W : World} {b L j : Nat} {f : Nat → Bool} (h : BRow W b L f j) (hj : j < L) : BRow (W.setCell ⟨b, j, none⟩ (.bool (f j))) b L f (j + 1) := by
  obtain ⟨x, hx⟩ := h.there j hj
  have same : (W.setCell ⟨b, j, none⟩ (.bool (f j))).cell? ⟨b, j, none⟩ = some (.bool (f j)) := World.cell?_setCell_same _ _ _ hx
  refine ⟨fun i hi => ?_, fun i hi => by rw [World.frozen?_setCell]; exact h.free i hi, fun i hi => ?_⟩
  · by_cases he : i = j
    · subst he; exact ⟨_, same⟩
    · obtain ⟨y, hy⟩ := h.there i hi
      exact ⟨y, cso (Or.inr (fun e => he e.symm)) hy⟩
  · by_cases he : i = j
    · subst he; exact same
    · exact cso (Or.inr (fun e => he e.symm)) (h.set i (by omega))
theorem BRow.far {W W' : World} {b L j : Nat} {f : Nat → Bool} (h : BRow W b L f j) (hb : Below W.heap.size W W') (hl : b < W.heap.size) : BRow W' b L f j := by
  refine ⟨fun i hi => ?_, fun i hi => (hb.frozen (p := ⟨b, i, none⟩) hl).trans (h.free i hi), fun i hi => cell_in hb (h.set i hi)⟩
  obtain ⟨x, hx⟩ := h.there i hi
  exact ⟨x, cell_in hb hx⟩
theorem BRow.made {W : World} {base b L : Nat} {f : Nat → Bool} (h : W.ownsRow base 4 1 (.slice (some ⟨b, 0, none⟩) L L) L (madeCells (Value.bool false).cells (L * 1)).toList) : BRow W b L f 0 := by
  have hb : ∃ cur, W.heap[b]? = some (.cells cur 4 (0, 0)) := by
    rcases h.2 with ⟨e, _⟩ | ⟨g, cap, cur, e, _, hh, _⟩
    · cases e
    · simp only [Value.slice.injEq, Option.some.injEq, Addr.mk.injEq] at e
      obtain ⟨⟨rfl, _⟩, _⟩ := e
      exact ⟨cur, hh⟩
  obtain ⟨cur, hh⟩ := hb
  refine ⟨fun i hi => ?_, fun i hi => by simp [World.frozen?, hh], fun i hi => absurd hi (by omega)⟩
  refine ⟨false, own_cell h ?_⟩
  have e : (madeCells (Value.bool false).cells (L * 1)).toList = List.replicate L (.bool false) := by rw [Nat.mul_one]; exact toList_madeCells_one _ _
  rw [e]; simp [hi]

theorem runMin2 {x y : Nat} {a b : Rat} (hx : fv x = some a) (hy : fv y = some b) (h : b < a) (ts : Array TypeId) (t : TypeId) (w : World) : (Builtin.min_ ts t #[.float .f64 x, .float .f64 y]).run Tryf.prog w = .ok (.float .f64 y) w := by
  simp [Builtin.min_, Builtin.min2, ord_gt hx hy h]

theorem dif_wide {x y : Nat} {a b : Rat} (hx : fv x = some a) (hy : fv y = some b) (ba : Bd a (16 / 10)) (bb : Bd b (16 / 10)) :
    ∃ d q, Ieee.double.sub x y = some d ∧ d < 18446744073709551616 ∧ fv (absW d) = some q ∧ ((0 ≤ q ∧ Bd (q - (a - b)) (1 / 1000000000000000)) ∨ (0 ≤ q ∧ Bd (q + (a - b)) (1 / 1000000000000000))) := by
  obtain ⟨d, e1, f1⟩ := Fx.sub 2 (32 / 10) (1 / 1000000000000000) (Fx.lit hx ba) (Fx.lit hy bb) (by decide +kernel)
  obtain ⟨q, v, e, _⟩ := f1
  have e1' := e.1; have e2' := e.2
  rcases abs_val v with ⟨h1, h2⟩ | ⟨h1, h2⟩
  · exact ⟨d, q, e1, fv_lt v, h2, Or.inl ⟨h1, ⟨by grind, by grind⟩⟩⟩
  · exact ⟨d, -q, e1, fv_lt v, h2, Or.inr ⟨by grind, ⟨by grind, by grind⟩⟩⟩

/-- The distances to a bracket's middle, in facts for the walk. -/
theorem brk_case {η : Rat} {k : Int} {n m a b : Nat} {T : Nat → Nat} (hA : ∀ m, m < n → At η k m (T m)) (hm : m < n) (hb : Brk a b (T m) n T m) (ea : EndOK η k m a) (N' : Nat) (eb : EndOK η k N' b) :
    ∃ (s md : Nat) (D : Nat → Nat), Ieee.double.add a b = some s ∧ Ieee.double.div s 4611686018427387904 = some md ∧ (∀ q, q < n → Ieee.double.sub (T q) md = some (D q) ∧ D q < 18446744073709551616) ∧
      ∀ q j, q < n → j < n → (m < q → j = m) → (FloatKind.f64.format.order (absW (D q)) (absW (D j)) = some .lt ∧ (m < q + 1 → q = m)) ∨ ((FloatKind.f64.format.order (absW (D q)) (absW (D j)) == some .lt) = false ∧ (m < q + 1 → j = m)) := by
  obtain ⟨qa, qb, z, va, vb, vz, l1, l2, l3, l4, hz, hfar⟩ := hb
  obtain ⟨τa, va', ta0, ta1, _⟩ := ea
  obtain ⟨τb, vb', tb0, tb1, _⟩ := eb
  obtain rfl : qa = τa := by rw [va] at va'; exact Option.some.inj va'
  obtain rfl : qb = τb := by rw [vb] at vb'; exact Option.some.inj vb'
  obtain ⟨s, md, qm, e1, e2, e3, e4⟩ := mid_near va vb ⟨by grind, by grind⟩ ⟨by grind, by grind⟩
  have m1 := e4.1; have m2 := e4.2
  have z1 := hz.1; have z2 := hz.2
  have hd : ∀ q, q < n → ∃ d x, Ieee.double.sub (T q) md = some d ∧ d < 18446744073709551616 ∧ fv (absW d) = some x ∧ (q = m → x ≤ 14 / 100) ∧ (q ≠ m → 2 / 10 ≤ x) := fun q hq => by
    obtain ⟨p, _, bq⟩ := hA q hq
    obtain ⟨d, x, g1, g2, g3, g4⟩ := dif_wide p e3 bq ⟨by grind, by grind⟩
    refine ⟨d, x, g1, g2, g3, fun h => ?_, fun h => ?_⟩
    · subst h
      rw [p] at vz
      obtain rfl := Option.some.inj vz
      rcases g4 with ⟨g5, g6⟩ | ⟨g5, g6⟩
      · have := g6.1; have := g6.2; grind
      · have := g6.1; have := g6.2; grind
    · have hf := hfar q hq h
      rcases g4 with ⟨g5, g6⟩ | ⟨g5, g6⟩
      · have := g6.1; have := g6.2; grind
      · have := g6.1; have := g6.2; grind
  refine ⟨s, md, fun q => (Ieee.double.sub (T q) md).getD 0, e1, e2, fun q hq => ?_, fun q j hq hj hinv => ?_⟩
  · obtain ⟨d, x, g1, g2, _⟩ := hd q hq
    simp only [g1, Option.getD_some]
    exact ⟨trivial, g2⟩
  · obtain ⟨d, x, g1, g2, g3, g4, g5⟩ := hd q hq
    obtain ⟨d', x', g1', g2', g3', g4', g5'⟩ := hd j hj
    simp only [g1, g1', Option.getD_some]
    by_cases hqm : q = m
    · by_cases hjm : j = m
      · refine Or.inr ⟨ord_nltB g3 g3' ?_, fun _ => hjm⟩
        subst hqm; subst hjm
        rw [g1] at g1'
        obtain rfl := Option.some.inj g1'
        rw [g3] at g3'
        obtain rfl := Option.some.inj g3'
        exact Rat.le_refl
      · have h1 := g4 hqm; have h2 := g5' hjm
        exact Or.inl ⟨ord_lt g3 g3' (by grind), fun _ => hqm⟩
    · by_cases hlt : x < x'
      · refine Or.inl ⟨ord_lt g3 g3' hlt, fun h => ?_⟩
        have := hinv (by omega)
        have h1 := g4' this; have h2 := g5 hqm
        exfalso; grind
      · exact Or.inr ⟨ord_nltB g3 g3' (by grind), fun h => hinv (by omega)⟩

def TurnOK (η : Rat) (t r h : Nat) : Prop := ∃ ρ q, fv r = some ρ ∧ fv h = some q ∧ Bd (ρ - wv t) (2 / 100000000) ∧ Bd (q - (η + Wr * ρ)) (2 / 100000000000000)
def cells3 (R Hr : Nat → Nat) (dec : Nat) : Nat → List Value
  | 0 => []
  | n + 1 => cells3 R Hr dec n ++ [.float .f64 (R n), .float .f64 dec, .float .f64 (Hr n)]
theorem cells3_congr {R R' Hr Hr' : Nat → Nat} (dec : Nat) : ∀ n, (∀ m, m < n → R m = R' m ∧ Hr m = Hr' m) → cells3 R Hr dec n = cells3 R' Hr' dec n
  | 0, _ => rfl
  | n + 1, h => by
    rw [cells3, cells3, cells3_congr dec n (fun m hm => h m (by omega)), (h n (by omega)).1, (h n (by omega)).2]

/-- The root finder on a bracket, and the place there. -/
theorem solve_brk {dec h0 sa sl cl : Nat} {δ η α σ κ : Rat} (H : DayOK dec h0 sa sl cl δ η α σ κ) (nm : ByteArray) (b5 b6 a b n m N' : Nat) (k : Int) (T : Nat → Nat) (ub : Bool) (hub : ub = decide ((k + m) % 2 = 0)) (hA : At η k m (T m)) (hb : Brk a b (T m) n T m) (ea : EndOK η k m a) (eb : EndOK η k N' b)
    (w : World) (hg : Glob w) (c5 : w.cell? ⟨b5, 0, none⟩ = some (.float .f64 dec)) (c6 : w.cell? ⟨b6, 0, none⟩ = some (.float .f64 h0)) :
    Calls Tryf.prog 26 #[.string nm, .func (.func 25) #[dayV b5 b6 sa sl cl] #[], .float .f64 a, .float .f64 b, .bool ub, .float .f64 (T m)] w fun e w' => IsRoot (wv (T m)) e ∧ Below w.heap.size w w' := by
  obtain ⟨qa, qb, z, va, vb, vz, l1, l2, l3, l4, hz, hfar⟩ := hb
  obtain ⟨τa, va', ta0, ta1, _⟩ := ea
  obtain ⟨τb, vb', tb0, tb1, _⟩ := eb
  obtain rfl : qa = τa := by rw [va] at va'; exact Option.some.inj va'
  obtain rfl : qb = τb := by rw [vb] at vb'; exact Option.some.inj vb'
  obtain ⟨p, at1, _⟩ := hA
  rw [p] at vz
  obtain rfl := Option.some.inj vz
  have x1 := at1.1; have x2 := at1.2
  have o : ((k + (m : Int) : Int) : Rat) = (k : Rat) + (m : Rat) := by rw [Rat.intCast_add]; rfl
  by_cases he : (k + m) % 2 = 0
  · obtain rfl : ub = true := by rw [hub]; simp [he]
    exact solve_true H nm b5 b6 a b (T m) qa qb (wv (T m)) va vb p ⟨by grind, by grind⟩ ⟨by grind, by grind⟩ ⟨by grind, by grind⟩ l1 l2 l3 l4 (k + m) (η + Wr * wv (T m) - ((k : Rat) + (m : Rat)) * (4 * Q4)) (by rw [o]; grind) ⟨by grind, by grind⟩ (sg_even he) w hg c5 c6
  · obtain rfl : ub = false := by rw [hub]; simp [he]
    exact solve_false H nm b5 b6 a b (T m) qa qb (wv (T m)) va vb p ⟨by grind, by grind⟩ ⟨by grind, by grind⟩ ⟨by grind, by grind⟩ l1 l2 l3 l4 (k + m) (η + Wr * wv (T m) - ((k : Rat) + (m : Rat)) * (4 * Q4)) (by rw [o]; grind) ⟨by grind, by grind⟩ (sg_odd he) w hg c5 c6

theorem brk_minmax {a b n m : Nat} {T : Nat → Nat} (hb : Brk a b (T m) n T m) : (∀ ts t w, (Builtin.min_ ts t #[.float .f64 b, .float .f64 (T m)]).run Tryf.prog w = .ok (.float .f64 (T m)) w) ∧ (∀ ts t w, (Builtin.max_ ts t #[.float .f64 a, .float .f64 (T m)]).run Tryf.prog w = .ok (.float .f64 (T m)) w) := by
  obtain ⟨qa, qb, z, va, vb, vz, l1, l2, l3, l4, hz, hfar⟩ := hb
  exact ⟨runMin2 vb vz (by grind), runMax va vz (by grind)⟩

/-- The place at the root. -/
theorem root_at {h0 r : Nat} {η z q : Rat} {t : Nat} (hh : fv h0 = some η) (bh : Bd η 64) (hz : wv t = z) (hr : fv r = some q) (hq : Bd (q - z) (2 / 100000000)) (bz : Bd z (11 / 10)) : ∃ m hw, Ieee.double.mul 4618779624111797601 r = some m ∧ Ieee.double.add h0 m = some hw ∧ TurnOK η t r hw := by
  have h1 := hq.1; have h2 := hq.2; have h3 := bz.1; have h4 := bz.2
  obtain ⟨m, hw, qh, e1, e2, e3, e4, _⟩ := hour_wide hr ⟨by grind, by grind⟩ hh bh
  exact ⟨m, hw, e1, e2, q, qh, hr, e3, by rw [hz]; exact hq, e4⟩

theorem i43 : (Tryf.prog.info? 43).map (fun i => (i.zero, i.size, i.bytes)) = some (some (.agg #[.float .f64 0, .float .f64 0, .float .f64 0]), 3, 24) := by kernel_rfl
def news3 (t dec h : Nat) : List Value := [.float .f64 t, .float .f64 dec, .float .f64 h]
theorem news3_one {t dec h : Nat} : ∀ v ∈ news3 t dec h, v.oneCell' = true := by
  intro v hv
  simp [news3] at hv
  rcases hv with rfl | rfl | rfl <;> rfl
theorem news3_cell {w : World} {t dec h : Nat} {ty : TypeId} {n : Nat} (hn : n = w.heap.size) : ∀ j v, (news3 t dec h)[j]? = some v → (w.alloc (.cells #[.float .f64 t, .float .f64 dec, .float .f64 h] ty)).cell? ((⟨n, 0, none⟩ : Addr).add j) = some v := by
  intro j v hv
  have : (w.alloc (.cells #[.float .f64 t, .float .f64 dec, .float .f64 h] ty)).cell? ⟨n, j, none⟩ = some v := by
    rw [World.cell?_alloc_at _ _ _ _ hn]
    simpa [news3] using hv
  cases j <;> simpa [Addr.add] using this
theorem ends_le {η : Rat} {k : Int} {n L : Nat} {T E N : Nat → Nat} (hE : Fl.Ends η k n T L E N) : ∀ d a, a + d < L → N a ≤ N (a + d)
  | 0, a, _ => Nat.le_refl _
  | d + 1, a, h => by
    have h1 := ends_le hE d a (by omega)
    rcases hE.step (a + d) (by omega) with h2 | ⟨h2, _⟩
    · rw [show a + (d + 1) = a + d + 1 by omega]; omega
    · rw [show a + (d + 1) = a + d + 1 by omega]; omega
theorem els_head (T : Nat → Nat) (x : Nat) : ∀ j, (els T j ++ [x]).getD 0 0 = 0 := fun j => by
  have : ∀ j, ∃ r, els T j = 0 :: r := fun j => by
    induction j with
    | zero => exact ⟨[], rfl⟩
    | succ j ih =>
      obtain ⟨r, hr⟩ := ih
      rw [els, hr]
      exact ⟨_, rfl⟩
  obtain ⟨r, hr⟩ := this j
  rw [hr]; rfl
theorem els_last (T : Nat → Nat) (x j : Nat) : (els T j ++ [x]).getD (els T j).length 0 = x := by simp [List.getD]

theorem brk_z {η : Rat} {k : Int} {n m a b N N' : Nat} {T : Nat → Nat} (hb : Brk a b (T m) n T m) (ea : EndOK η k N a) (eb : EndOK η k N' b) : Bd (wv (T m)) (11 / 10) := by
  obtain ⟨qa, qb, z, va, vb, vz, l1, l2, l3, l4, hz, hfar⟩ := hb
  obtain ⟨τa, va', ta0, ta1, _⟩ := ea
  obtain ⟨τb, vb', tb0, tb1, _⟩ := eb
  obtain rfl : qa = τa := by rw [va] at va'; exact Option.some.inj va'
  obtain rfl : qb = τb := by rw [vb] at vb'; exact Option.some.inj vb'
  rw [(fv_wv vz).2]
  exact ⟨by grind, by grind⟩
theorem cells3_upd (R Hr : Nat → Nat) (dec M r h : Nat) : cells3 (fun m => if m = M then r else R m) (fun m => if m = M then h else Hr m) dec (M + 1) = cells3 R Hr dec M ++ news3 r dec h := by
  have hc : ∀ m, m < M → (if m = M then r else R m) = R m ∧ (if m = M then h else Hr m) = Hr m := fun m hm => by
    have : m ≠ M := by omega
    simp [this]
  rw [cells3, cells3_congr (R' := R) (Hr' := Hr) dec M hc]
  simp [news3]
theorem turn_next {η : Rat} {T R Hr : Nat → Nat} {N0 M r h : Nat} (hall : ∀ m, m < M → TurnOK η (T (N0 + m)) (R m) (Hr m)) (hok : TurnOK η (T (N0 + M)) r h) : ∀ m, m < M + 1 → TurnOK η (T (N0 + m)) (if m = M then r else R m) (if m = M then h else Hr m) := fun m hm => by
  by_cases he : m = M
  · subst he; simpa using hok
  · simpa [he] using hall m (by omega)

/-- The turning points, as they are handed out. -/
def IsTurns (η : Rat) (k : Int) (dec B n : Nat) (T : Nat → Nat) (e : Ending) (w' : World) : Prop := ∃ (v : Value) (N0 : Nat) (R Hr : Nat → Nat), e = .returned (.tuple #[v, .nilIface]) ∧ w'.ownsRow B 43 3 v (n - 1 - N0) (cells3 R Hr dec (n - 1 - N0)) ∧ (∀ m, m < n - 1 - N0 → TurnOK η (T (N0 + m)) (R m) (Hr m)) ∧ N0 ≤ 1 ∧ N0 ≤ n - 1 ∧ EndOK η k N0 0 ∧ EndOK η k (n - 1) 4607182418800017408

end Go.Proofs.Qxb6609382aFmt.W
