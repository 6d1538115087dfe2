import Derived.Test.Qxb6609382aFmtO
import Derived.Deep.AppendLies
import Derived.OwnWalk
namespace Go.Proofs.Qxb6609382aFmt.W
open Go.RowKit Go.Proofs.Qxb6609382aFmt.Fl
attribute [local go_sem] run_store_float

theorem culm_any {dec h0 sa sl cl : Nat} {δ η α σ κ : Rat} (H : DayOK dec h0 sa sl cl δ η α σ κ) (b5 b6 t0 : Nat) (τ d : Rat) (k : Int) (u : Bool) (hu : u = decide (k % 2 = 0)) (ht : fv t0 = some τ) (bt : Bd τ (16 / 10)) (bd : Bd d 2) (bb : Bd ((k : Rat) * (4 * Q4) - η) 10) (hk : η + Wr * τ = (k : Rat) * (4 * Q4) - d)
    (w : World) (g1 : w.cell? ⟨1, 0, none⟩ = some (.float .f64 4618779624111797601)) (c5 : w.cell? ⟨b5, 0, none⟩ = some (.float .f64 dec)) (c6 : w.cell? ⟨b6, 0, none⟩ = some (.float .f64 h0)) :
    Calls Tryf.prog 21 #[dayV b5 b6 sa sl cl, .bool u, .float .f64 t0] w fun e w' => IsCulm η k dec u e ∧ Below w.heap.size w w' := by
  by_cases h : k % 2 = 0
  · obtain rfl : u = true := by rw [hu]; simp [h]
    exact culm_true H b5 b6 t0 τ d (k / 2) k (by omega) ht bt bd bb hk w g1 c5 c6
  · obtain rfl : u = false := by rw [hu]; simp [h]
    exact culm_false H b5 b6 t0 τ d (k / 2) k (by omega) ht bt bd bb hk w g1 c5 c6

theorem podd (m : Int) : false = decide ((2 * m + 1) % 2 = 0) := by
  simp
theorem podd' (m : Int) : false = decide ((2 * m - 1) % 2 = 0) := by
  simp
theorem fv_PQ : fv 4609753056924675352 = some (TP / 4) := by decide +kernel
/-- The first culmination: which it is, and how far. -/
theorem start_case {r1 : Nat} {ηs η : Rat} (hη : Bd (ηs - η) (2 / 100000000000000)) (bη : Bd η 64) (h : Sgd ηs r1) :
    ∃ (k : Int) (ub : Bool), (FloatKind.f64.format.order (absW r1) 4609753056924675352 == some .lt) = ub ∧ ub = decide (k % 2 = 0) ∧ Bd ((k : Rat) * (4 * Q4) - η) (1571 / 1000) := by
  obtain ⟨q, m, v1, v2, v3⟩ := h
  have t1 := TP_lo; have t2 := TP_hi
  have tq : TP - 8 * Q4 ≤ 3 / 10000000000000000 ∧ -(TP - 8 * Q4) ≤ 3 / 10000000000000000 := by decide +kernel
  have tp : TP ≤ 62831853071796 / 10000000000000 := by decide +kernel
  have q1 := Q4_lo; have q2 := Q4_hi
  have h1 := hη.1; have h2 := hη.2; have b1 := bη.1; have b2 := bη.2; have c1 := v2.1; have c2 := v2.2; have d1 := v3.1; have d2 := v3.2
  have bm : Bd (m : Rat) 12 := by
    have hm : Bd ((m : Rat) * TP) (68) := ⟨by grind, by grind⟩
    have m1 := hm.1; have m2 := hm.2
    simp only [TP] at m1 m2
    exact ⟨by grind, by grind⟩
  have bmt := bm.mul (show Bd (TP - 8 * Q4) (3 / 10000000000000000) from tq)
  have e1 := bmt.1; have e2 := bmt.2
  rcases abs_val v1 with ⟨s1, s2⟩ | ⟨s1, s2⟩
  · by_cases hq : q < TP / 4
    · refine ⟨2 * m, true, by rw [ord_lt s2 fv_PQ hq]; rfl, by simp, ?_⟩
      rw [Rat.intCast_mul]
      have : ((2 : Int) : Rat) = 2 := rfl
      rw [this]
      exact ⟨by grind, by grind⟩
    · refine ⟨2 * m + 1, false, ord_nltB s2 fv_PQ (by grind), podd m, ?_⟩
      rw [Rat.intCast_add, Rat.intCast_mul]
      have : ((2 : Int) : Rat) = 2 := rfl
      have o : ((1 : Int) : Rat) = 1 := rfl
      rw [this, o]
      exact ⟨by grind, by grind⟩
  · by_cases hq : -q < TP / 4
    · refine ⟨2 * m, true, by rw [ord_lt s2 fv_PQ hq]; rfl, by simp, ?_⟩
      rw [Rat.intCast_mul]
      have : ((2 : Int) : Rat) = 2 := rfl
      rw [this]
      exact ⟨by grind, by grind⟩
    · refine ⟨2 * m - 1, false, ord_nltB s2 fv_PQ (by grind), podd' m, ?_⟩
      rw [Rat.intCast_sub, Rat.intCast_mul]
      have : ((2 : Int) : Rat) = 2 := rfl
      have o : ((1 : Int) : Rat) = 1 := rfl
      rw [this, o]
      exact ⟨by grind, by grind⟩

def SDh : Nat := 4602654226485391439
theorem sd_half : Ieee.double.div 4607157826112761935 4611686018427387904 = some SDh := by decide +kernel
theorem fv_SDh : fv SDh = some (8982606567485519 / 18014398509481984) := by decide +kernel
theorem SD_turn : Wr * (8982606567485519 / 18014398509481984) - 4 * Q4 ≤ 3 / 1000000000000000 ∧ -(Wr * (8982606567485519 / 18014398509481984) - 4 * Q4) ≤ 3 / 1000000000000000 := by decide +kernel

/-- The next culmination's first guess. -/
theorem next_case {t h : Nat} {η : Rat} {k : Int} (hc : CulmOK η k t h) (hlt : ∃ τ, fv t = some τ ∧ τ < 1) (hlo : Bd ((k : Rat) * (4 * Q4) - η) 7) :
    ∃ t2 τ2 d, Ieee.double.add t SDh = some t2 ∧ fv t2 = some τ2 ∧ Bd τ2 (16 / 10) ∧ Bd d 2 ∧ Bd (((k + 1 : Int) : Rat) * (4 * Q4) - η) 10 ∧ η + Wr * τ2 = ((k + 1 : Int) : Rat) * (4 * Q4) - d := by
  obtain ⟨τ, q, v1, v2, v3, v4, v5⟩ := hc
  obtain ⟨τ', v1', hlt⟩ := hlt
  obtain rfl : τ = τ' := by rw [v1] at v1'; exact Option.some.inj v1'
  have x1 := v4.1; have x2 := v4.2; have l1 := hlo.1; have l2 := hlo.2
  have q1 := Q4_lo; have q2 := Q4_hi
  have s1 := SD_turn.1; have s2 := SD_turn.2
  have bt : Bd τ (112 / 100) := by
    have k1 : Bd (τ * Wr) (701 / 100) := ⟨by grind, by grind⟩
    have k2 := k1.1; have k3 := k1.2
    simp only [Wr] at k2 k3
    exact ⟨by grind, by grind⟩
  obtain ⟨t2, e1, f1⟩ := Fx.add 1 (162 / 100) (1 / 1000000000000000) (Fx.lit v1 bt) (Fx.lit fv_SDh (A := 1 / 2) (by constructor <;> decide +kernel)) (by decide +kernel)
  obtain ⟨τ2, e2, e3, _⟩ := f1
  have e4 := e3.1; have e5 := e3.2
  have bw := (show Bd (τ2 - (τ + 8982606567485519 / 18014398509481984)) (1 / 1000000000000000) from e3).mul (show Bd Wr 7 by constructor <;> decide +kernel)
  have w1 := bw.1; have w2 := bw.2
  have o : ((k + 1 : Int) : Rat) = (k : Rat) + 1 := by rw [Rat.intCast_add]; rfl
  have bt2 := bt.2
  have K1 : ((k + 1 : Int) : Rat) * (4 * Q4) = (k : Rat) * (4 * Q4) + 4 * Q4 := by rw [o]; grind
  have m1 : Wr * τ2 - Wr * τ - Wr * (8982606567485519 / 18014398509481984) ≤ 1 / 1000000000000000 * 7 := by grind
  have m2 : -(Wr * τ2 - Wr * τ - Wr * (8982606567485519 / 18014398509481984)) ≤ 1 / 1000000000000000 * 7 := by grind
  refine ⟨t2, τ2, ((k + 1 : Int) : Rat) * (4 * Q4) - (η + Wr * τ2), e1, e2, ⟨by grind, by grind⟩, ?_, ?_, by grind⟩
  · rw [K1]
    generalize (k : Rat) * (4 * Q4) = K at *
    generalize Wr * (8982606567485519 / 18014398509481984) = C at *
    generalize Wr * τ2 = A2 at *
    generalize Wr * τ = A1 at *
    clear bw w1 w2 v1 v1' v2 v3 v4 v5 hlo bt e1 e2 e3 e4 e5 K1 o hlt
    exact ⟨by grind, by grind⟩
  · rw [K1]
    have m3 := mul_nn (show 0 ≤ 1 - τ by grind) (show 0 ≤ Wr by decide +kernel)
    have wh := Wr_hi
    clear bw w1 w2 v1 v1' v2 v3 v4 v5 hlo bt e1 e2 e3 e4 e5 K1 o
    exact ⟨by grind, by grind⟩

/-- The culminations' cells, one after another. -/
def cells4 (T Hh : Nat → Nat) (dec : Nat) (k0 : Int) : Nat → List Value
  | 0 => []
  | n + 1 => cells4 T Hh dec k0 n ++ [.float .f64 (T n), .float .f64 dec, .float .f64 (Hh n), .bool (decide ((k0 + n) % 2 = 0))]

structure Z4 (W : World) (b : Nat) : Prop where
  c0 : W.cell? ⟨b, 0, none⟩ = some (.float .f64 0)
  c1 : W.cell? ⟨b, 1, none⟩ = some (.float .f64 0)
  c2 : W.cell? ⟨b, 2, none⟩ = some (.float .f64 0)
  c3 : W.cell? ⟨b, 3, none⟩ = some (.bool false)
  f0 : W.frozen? ⟨b, 0, none⟩ = false
  f1 : W.frozen? ⟨b, 1, none⟩ = false
  f2 : W.frozen? ⟨b, 2, none⟩ = false
  f3 : W.frozen? ⟨b, 3, none⟩ = false
  lt : b < W.heap.size
abbrev z4 : Obj := .cells #[.float .f64 0, .float .f64 0, .float .f64 0, .bool false] 47
theorem Z4.call {W W' : World} {b : Nat} (h : Z4 W b) (hb : Below W.heap.size W W') : Z4 W' b := by
  obtain ⟨c0, c1, c2, c3, f0, f1, f2, f3, lt⟩ := h
  exact ⟨cell_in hb c0, cell_in hb c1, cell_in hb c2, cell_in hb c3, (hb.frozen (p := ⟨b, 0, none⟩) lt).trans f0, (hb.frozen (p := ⟨b, 1, none⟩) lt).trans f1, (hb.frozen (p := ⟨b, 2, none⟩) lt).trans f2, (hb.frozen (p := ⟨b, 3, none⟩) lt).trans f3, Nat.lt_of_lt_of_le lt hb.size⟩
theorem Z4.drew {W : World} {b : Nat} (h : Z4 W b) : Z4 W.drew b := h.call ((Below.refl _ W).drew)
theorem Z4.new {W : World} {b : Nat} (h : b = W.heap.size) : Z4 (W.alloc z4) b := by
  subst h; exact ⟨by simp, by simp, by simp, by simp, by simp, by simp, by simp, by simp, by simp⟩

/-- A culmination's four cells, and that they may be written. -/
structure Row4 (W : World) (b t dec h : Nat) (u : Bool) : Prop where
  c0 : W.cell? ⟨b, 0, none⟩ = some (.float .f64 t)
  c1 : W.cell? ⟨b, 1, none⟩ = some (.float .f64 dec)
  c2 : W.cell? ⟨b, 2, none⟩ = some (.float .f64 h)
  c3 : W.cell? ⟨b, 3, none⟩ = some (.bool u)
  f0 : W.frozen? ⟨b, 0, none⟩ = false
  f1 : W.frozen? ⟨b, 1, none⟩ = false
  f2 : W.frozen? ⟨b, 2, none⟩ = false
  f3 : W.frozen? ⟨b, 3, none⟩ = false
  lt : b < W.heap.size
theorem Row4.new {W : World} {b t dec h : Nat} {u : Bool} (hb : b = W.heap.size) : Row4 (W.alloc (.cells #[.float .f64 t, .float .f64 dec, .float .f64 h, .bool u] 47)) b t dec h u := by
  subst hb; exact ⟨by simp, by simp, by simp, by simp, by simp, by simp, by simp, by simp, by simp⟩
theorem Row4.call {W W' : World} {b t dec h : Nat} {u : Bool} (hr : Row4 W b t dec h u) (hb : Below W.heap.size W W') : Row4 W' b t dec h u := by
  obtain ⟨c0, c1, c2, c3, f0, f1, f2, f3, lt⟩ := hr
  exact ⟨cell_in hb c0, cell_in hb c1, cell_in hb c2, cell_in hb c3, (hb.frozen (p := ⟨b, 0, none⟩) lt).trans f0, (hb.frozen (p := ⟨b, 1, none⟩) lt).trans f1, (hb.frozen (p := ⟨b, 2, none⟩) lt).trans f2, (hb.frozen (p := ⟨b, 3, none⟩) lt).trans f3, Nat.lt_of_lt_of_le lt hb.size⟩
/-- Stored anew. -/
theorem Row4.set {W : World} {b t dec h t' dec' h' : Nat} {u u' : Bool} (hr : Row4 W b t dec h u) : Row4 ((((W.setCell ⟨b, 0, none⟩ (.float .f64 t')).setCell ⟨b, 1, none⟩ (.float .f64 dec')).setCell ⟨b, 2, none⟩ (.float .f64 h')).setCell ⟨b, 3, none⟩ (.bool u')) b t' dec' h' u' := by
  obtain ⟨c0, c1, c2, c3, f0, f1, f2, f3, lt⟩ := hr
  refine ⟨cso (by omega) (cso (by omega) (cso (by omega) (World.cell?_setCell_same _ _ _ c0))), cso (by omega) (cso (by omega) (World.cell?_setCell_same _ _ _ (cso (by omega) c1))), cso (by omega) (World.cell?_setCell_same _ _ _ (cso (by omega) (cso (by omega) c2))), World.cell?_setCell_same _ _ _ (cso (by omega) (cso (by omega) (cso (by omega) c3))), by simpa using f0, by simpa using f1, by simpa using f2, by simpa using f3, by simpa using lt⟩
theorem Z4.row {W : World} {b t dec h : Nat} {u : Bool} (hr : Z4 W b) : Row4 ((((W.setCell ⟨b, 0, none⟩ (.float .f64 t)).setCell ⟨b, 1, none⟩ (.float .f64 dec)).setCell ⟨b, 2, none⟩ (.float .f64 h)).setCell ⟨b, 3, none⟩ (.bool u)) b t dec h u := by
  obtain ⟨c0, c1, c2, c3, f0, f1, f2, f3, lt⟩ := hr
  exact Row4.set (t := 0) (dec := 0) (h := 0) (u := false) ⟨c0, c1, c2, c3, f0, f1, f2, f3, lt⟩

theorem Row4.far {W W' : World} {b t dec h B : Nat} {u : Bool} (hr : Row4 W b t dec h u) (hb : Below B W W') (hl : b < B) : Row4 W' b t dec h u := by
  obtain ⟨c0, c1, c2, c3, f0, f1, f2, f3, lt⟩ := hr
  exact ⟨by rw [hb.cell (by exact hl)]; exact c0, by rw [hb.cell (by exact hl)]; exact c1, by rw [hb.cell (by exact hl)]; exact c2, by rw [hb.cell (by exact hl)]; exact c3, (hb.frozen (p := ⟨b, 0, none⟩) hl).trans f0, (hb.frozen (p := ⟨b, 1, none⟩) hl).trans f1, (hb.frozen (p := ⟨b, 2, none⟩) hl).trans f2, (hb.frozen (p := ⟨b, 3, none⟩) hl).trans f3, Nat.lt_of_lt_of_le lt hb.size⟩

theorem own_cell {w : World} {base : Nat} {e : TypeId} {size : Nat} {g n c : Nat} {xs : List Value} (h : w.ownsRow base e size (.slice (some ⟨g, 0, none⟩) n c) n xs) {j : Nat} {u : Value} (hj : xs[j]? = some u) : w.cell? ⟨g, j, none⟩ = some u := by
  have := h.cells (g := g) rfl j u hj
  cases j <;> simpa [Addr.add] using this
theorem own_mono {w : World} {base base' : Nat} {e : TypeId} {size : Nat} {v : Value} {n : Nat} {xs : List Value} (h : w.ownsRow base e size v n xs) (hb : base' ≤ base) : w.ownsRow base' e size v n xs := by
  refine ⟨h.1, ?_⟩
  rcases h.2 with h2 | ⟨g, cap, cur, hv, hg, r⟩
  · exact Or.inl h2
  · exact Or.inr ⟨g, cap, cur, hv, Nat.le_trans hb hg, r⟩
theorem own_block {w w' : World} {base : Nat} {e : TypeId} {size : Nat} {v : Value} {n : Nat} {xs : List Value} (h : w.ownsRow base e size v n xs) (hb : ∀ g, v.ownBlock = some g → w'.heap[g]? = w.heap[g]?) : w'.ownsRow base e size v n xs := by
  obtain ⟨h1, h2⟩ := h
  refine ⟨h1, ?_⟩
  rcases h2 with h2 | ⟨g, cap, cur, hv, hg, hh, r⟩
  · exact Or.inl h2
  · subst hv
    exact Or.inr ⟨g, cap, cur, rfl, hg, by rw [hb g rfl]; exact hh, r⟩
theorem own_keep {w w' : World} {b : Nat} {e : TypeId} {size : Nat} {v : Value} {n : Nat} {xs : List Value} (h : w.ownsRow b e size v n xs) (hB : Below w.heap.size w w') : w'.ownsRow b e size v n xs := own_block h (fun g hg => hB.block g (h.lt g hg).2)
theorem own_ge {w : World} {base : Nat} {e : TypeId} {size : Nat} {v : Value} {n : Nat} {xs : List Value} (h : w.ownsRow base e size v n xs) : ∀ k, v.ownBlock = some k → base ≤ k := by
  intro k hk
  rcases h.2 with ⟨rfl, _⟩ | ⟨g, cap, cur, rfl, hg, _⟩
  · simp [Value.ownBlock] at hk
  · simp [Value.ownBlock] at hk; omega
theorem own_set {w : World} {base b o : Nat} {e : TypeId} {size : Nat} {v : Value} {n : Nat} {xs : List Value} (h : w.ownsRow base e size v n xs) (hb : b < base) (u : Value) : (w.setCell ⟨b, o, none⟩ u).ownsRow base e size v n xs :=
  own_block h (fun g hg => Below.heap_setCell w _ u g (by have := own_ge h g hg; exact fun e => absurd (show g = b from e) (by omega)))

theorem i47 : (Tryf.prog.info? 47).map (fun i => (i.zero, i.size, i.bytes)) = some (some (.agg #[.float .f64 0, .float .f64 0, .float .f64 0, .bool false]), 4, 32) := by kernel_rfl
def news4 (t dec h : Nat) (u : Bool) : List Value := [.float .f64 t, .float .f64 dec, .float .f64 h, .bool u]
theorem news4_one {t dec h : Nat} {u : Bool} : ∀ v ∈ news4 t dec h u, v.oneCell' = true := by
  intro v hv
  simp [news4] at hv
  rcases hv with rfl | rfl | rfl | rfl <;> rfl
theorem news4_cell {w : World} {t dec h : Nat} {u : Bool} {ty : TypeId} {n : Nat} (hn : n = w.heap.size) : ∀ j v, (news4 t dec h u)[j]? = some v → (w.alloc (.cells #[.float .f64 t, .float .f64 dec, .float .f64 h, .bool u] ty)).cell? ((⟨n, 0, none⟩ : Addr).add j) = some v := by
  intro j v hv
  have : (w.alloc (.cells #[.float .f64 t, .float .f64 dec, .float .f64 h, .bool u] ty)).cell? ⟨n, j, none⟩ = some v := by
    rw [World.cell?_alloc_at _ _ _ _ hn]
    simpa [news4] using hv
  cases j <;> simpa [Addr.add] using this

theorem cells4_congr {T T' Hh Hh' : Nat → Nat} (dec : Nat) (k : Int) : ∀ n, (∀ m, m < n → T m = T' m ∧ Hh m = Hh' m) → cells4 T Hh dec k n = cells4 T' Hh' dec k n
  | 0, _ => rfl
  | n + 1, h => by
    rw [cells4, cells4, cells4_congr dec k n (fun m hm => h m (by omega)), (h n (by omega)).1, (h n (by omega)).2]

def Lt1 (t : Nat) : Prop := ∃ τ, fv t = some τ ∧ τ < 1
theorem culm_next {t h i : Nat} {η : Rat} {k : Int} (hc : CulmOK η (k + i) t h) (hlt : Lt1 t) (hb : Bd ((k : Rat) * (4 * Q4) - η) (1571 / 1000)) :
    i ≤ 2 ∧ ∃ t2 τ2 d, Ieee.double.add t SDh = some t2 ∧ fv t2 = some τ2 ∧ Bd τ2 (16 / 10) ∧ Bd d 2 ∧ Bd (((k + (i + 1 : Nat) : Int) : Rat) * (4 * Q4) - η) 10 ∧ η + Wr * τ2 = ((k + (i + 1 : Nat) : Int) : Rat) * (4 * Q4) - d := by
  obtain ⟨τ', v1', hl⟩ := id hlt
  obtain ⟨τ, q, v1, v2, v3, v4, v5⟩ := id hc
  obtain rfl : τ = τ' := by rw [v1] at v1'; exact Option.some.inj v1'
  have x1 := v4.1; have x2 := v4.2; have b1 := hb.1; have b2 := hb.2
  have q1 := Q4_lo; have q2 := Q4_hi
  have m3 := mul_nn (show 0 ≤ 1 - τ by grind) (show 0 ≤ Wr by decide +kernel)
  have wh := Wr_hi
  have o : ((k + (i : Int) : Int) : Rat) = (k : Rat) + (i : Rat) := by rw [Rat.intCast_add]; rfl
  have i0 : (0 : Rat) ≤ (i : Rat) := Rat.natCast_nonneg
  have hi : i ≤ 2 := by
    rcases Nat.lt_or_ge 2 i with h3 | h3
    · have : ((3 : Nat) : Rat) ≤ (i : Rat) := Rat.natCast_le_natCast.2 h3
      have t3 : ((3 : Nat) : Rat) = 3 := rfl
      rw [t3] at this
      have m4 := mul_nn (show 0 ≤ (i : Rat) - 3 by grind) (show 0 ≤ Q4 by grind)
      rw [o] at x1 x2
      exfalso; grind
    · omega
  refine ⟨hi, ?_⟩
  have m5 := mul_nn i0 (show 0 ≤ Q4 by grind)
  have e : ((k + (i + 1 : Nat) : Int)) = (k + i : Int) + 1 := by omega
  rw [e]
  exact next_case hc hlt (by rw [o] at x1 x2 ⊢; exact ⟨by grind, by grind⟩)

/-- What the loop keeps. -/
def CuInv (η : Rat) (dec : Nat) (k : Int) (p B C : Nat) (W0 : World) (i : Nat) (v : Value) (wr : World) : Prop := ∃ T Hh : Nat → Nat, wr.ownsRow B 47 4 v i (cells4 T Hh dec k i) ∧ Row4 wr p (T i) dec (Hh i) (decide ((k + i) % 2 = 0)) ∧ (∀ m, m ≤ i → CulmOK η (k + m) (T m) (Hh m)) ∧ (∀ m, m < i → Lt1 (T m)) ∧ Wld C W0 wr ∧ B ≤ wr.heap.size ∧ i ≤ 3
theorem CuInv.next {η : Rat} {dec : Nat} {k : Int} {p B C : Nat} {W0 w3 : World} {i t' h' : Nat} {v : Value} {T Hh : Nat → Nat} (hown : w3.ownsRow B 47 4 v (i + 1) (cells4 T Hh dec k (i + 1))) (hrow : Row4 w3 p t' dec h' (decide ((k + (i + 1 : Nat)) % 2 = 0)))
    (hall : ∀ m : Nat, m ≤ i → CulmOK η (k + (m : Int)) (T m) (Hh m)) (hok : CulmOK η (k + (i + 1 : Nat)) t' h') (hlt : ∀ m, m < i → Lt1 (T m)) (hL : Lt1 (T i)) (hW : Wld C W0 w3) (hB : B ≤ w3.heap.size) (hi : i ≤ 2) : CuInv η dec k p B C W0 (i + 1) v w3 := by
  refine ⟨fun m => if m = i + 1 then t' else T m, fun m => if m = i + 1 then h' else Hh m, ?_, by simpa using hrow, fun m hm => ?_, fun m hm => ?_, hW, hB, by omega⟩
  · rw [cells4_congr (T' := T) (Hh' := Hh) dec k (i + 1) (fun m hm => by have : m ≠ i + 1 := by omega
                                                                         simp [this])]
    exact hown
  · by_cases h : m = i + 1
    · subst h; simpa using hok
    · simpa [h] using hall m (by omega)
  · have h : m ≠ i + 1 := by omega
    by_cases h2 : m = i
    · subst h2; simpa [h] using hL
    · simpa [h] using hlt m (by omega)
theorem par_next (a : Int) : (!(decide (a % 2 = 0))) = decide ((a + 1) % 2 = 0) := by
  by_cases h : a % 2 = 0
  · have : ¬ (a + 1) % 2 = 0 := by omega
    simp [h, this]
  · have : (a + 1) % 2 = 0 := by omega
    simp [h, this]
/-- The culminations, as they are handed out. -/
def Culms (η : Rat) (k : Int) (n : Nat) (T Hh : Nat → Nat) : Prop := (∀ m, m < n → CulmOK η (k + m) (T m) (Hh m)) ∧ (∀ m, m + 1 < n → Lt1 (T m)) ∧ (∃ τ, fv (T (n - 1)) = some τ ∧ 1 ≤ τ) ∧ 1 ≤ n ∧ n ≤ 4 ∧ Bd ((k : Rat) * (4 * Q4) - η) (1571 / 1000)
def IsCulms (η : Rat) (dec B : Nat) (e : Ending) (w' : World) : Prop := ∃ (g c n : Nat) (k : Int) (T Hh : Nat → Nat), e = .returned (.tuple #[.slice (some ⟨g, 0, none⟩) n c, .nilIface]) ∧ w'.ownsRow B 47 4 (.slice (some ⟨g, 0, none⟩) n c) n (cells4 T Hh dec k n) ∧ Culms η k n T Hh

theorem ge_or (t h : Nat) {η : Rat} {k : Int} (hc : CulmOK η k t h) : ((FloatKind.f64.format.order t 4607182418800017408 == some .gt || FloatKind.f64.format.order t 4607182418800017408 == some .eq) = true ∧ ∃ τ, fv t = some τ ∧ 1 ≤ τ) ∨ (FloatKind.f64.format.order t 4607182418800017408 = some .lt ∧ Lt1 t) := by
  obtain ⟨τ, q, v1, _⟩ := hc
  by_cases h : τ < 1
  · exact Or.inr ⟨ord_lt v1 fv_one h, τ, v1, h⟩
  · exact Or.inl ⟨ord_ge v1 fv_one (by grind), τ, v1, by grind⟩

set_option maxHeartbeats 8000000 in
theorem culms_walk {dec h0 sa sl cl : Nat} {δ η α σ κ : Rat} (H : DayOK dec h0 sa sl cl δ η α σ κ) (b5 b6 zt hs : Nat) (ηs : Rat) (hηs : fv hs = some ηs) (dη : Bd (ηs - η) (2 / 100000000000000))
    (w : World) (g0 : w.cell? ⟨0, 0, none⟩ = some (.float .f64 4607157826112761935)) (g1 : w.cell? ⟨1, 0, none⟩ = some (.float .f64 4618779624111797601)) (c5 : w.cell? ⟨b5, 0, none⟩ = some (.float .f64 dec)) (c6 : w.cell? ⟨b6, 0, none⟩ = some (.float .f64 h0)) :
    Calls Tryf.prog 18 #[dayV b5 b6 sa sl cl, sampV zt dec hs] w fun e w' => IsCulms η dec w.heap.size e w' ∧ Below w.heap.size w w' := by
  have l5 := lt_of_cell c5
  have l6 := lt_of_cell c6
  have l1 := lt_of_cell g1
  have l0 := lt_of_cell g0
  have bηs : Bd ηs 100 := by
    have x1 := H.bh0.1; have x2 := H.bh0.2; have x3 := dη.1; have x4 := dη.2
    exact ⟨by grind, by grind⟩
  have csg := signed_any hs ηs hηs bηs
  have F0 := fun r1 h => start_case (r1 := r1) dη H.bh0 h
  have F1 := fun (k : Int) (u : Bool) (hu : u = decide (k % 2 = 0)) (bd : Bd ((k : Rat) * (4 * Q4) - η) (1571 / 1000)) => culm_any H b5 b6 0 0 ((k : Rat) * (4 * Q4) - η) k u hu fv_nought (Bd.zero (by decide +kernel)) (bd.mono (by decide +kernel)) (by
    have x1 := bd.1; have x2 := bd.2
    exact ⟨by grind, by grind⟩) (by grind)
  have held : ∀ W, Wld (w.heap.size + 2) ((w.alloc (.cells #[.nilFunc, .func (.func 17) #[] #[.pointer (some ⟨b5, 0, none⟩), .pointer (some ⟨b6, 0, none⟩)], .float .f64 sa, .float .f64 sl, .float .f64 cl] 31)).alloc (.cells #[.float .f64 zt, .float .f64 dec, .float .f64 hs] 43)) W → W.cell? ⟨w.heap.size, 0, none⟩ = some .nilFunc ∧ W.cell? ⟨w.heap.size, 1, none⟩ = some (.func (.func 17) #[] #[.pointer (some ⟨b5, 0, none⟩), .pointer (some ⟨b6, 0, none⟩)]) ∧ W.cell? ⟨w.heap.size, 2, none⟩ = some (.float .f64 sa) ∧ W.cell? ⟨w.heap.size, 3, none⟩ = some (.float .f64 sl) ∧ W.cell? ⟨w.heap.size, 4, none⟩ = some (.float .f64 cl) ∧ W.cell? ⟨b5, 0, none⟩ = some (.float .f64 dec) ∧ W.cell? ⟨b6, 0, none⟩ = some (.float .f64 h0) ∧ W.cell? ⟨1, 0, none⟩ = some (.float .f64 4618779624111797601) ∧ W.cell? ⟨0, 0, none⟩ = some (.float .f64 4607157826112761935) ∧ W.cell? ⟨w.heap.size + 1, 2, none⟩ = some (.float .f64 hs) ∧ Wld (w.heap.size + 2) ((w.alloc (.cells #[.nilFunc, .func (.func 17) #[] #[.pointer (some ⟨b5, 0, none⟩), .pointer (some ⟨b6, 0, none⟩)], .float .f64 sa, .float .f64 sl, .float .f64 cl] 31)).alloc (.cells #[.float .f64 zt, .float .f64 dec, .float .f64 hs] 43)) W := fun W hW => by
    refine ⟨hW.cell (by omega) (by simp [go_sem]), hW.cell (by omega) (by simp [go_sem]), hW.cell (by omega) (by simp [go_sem]), hW.cell (by omega) (by simp [go_sem]), hW.cell (by omega) (by simp [go_sem]), hW.cell (by omega) (cell_al (cell_al c5 _) _), hW.cell (by omega) (cell_al (cell_al c6 _) _), hW.cell (by omega) (cell_al (cell_al g1 _) _), hW.cell (by omega) (cell_al (cell_al g0 _) _), hW.cell (by omega) (by simp [go_sem]), hW⟩
  have hst : Wld (w.heap.size + 2) ((w.alloc (.cells #[.nilFunc, .func (.func 17) #[] #[.pointer (some ⟨b5, 0, none⟩), .pointer (some ⟨b6, 0, none⟩)], .float .f64 sa, .float .f64 sl, .float .f64 cl] 31)).alloc (.cells #[.float .f64 zt, .float .f64 dec, .float .f64 hs] 43)) ((w.alloc (.cells #[.nilFunc, .func (.func 17) #[] #[.pointer (some ⟨b5, 0, none⟩), .pointer (some ⟨b6, 0, none⟩)], .float .f64 sa, .float .f64 sl, .float .f64 cl] 31)).alloc (.cells #[.float .f64 zt, .float .f64 dec, .float .f64 hs] 43)) := ⟨Below.refl _ _, by simp⟩
  go_enter Tryf.func18, Tryf.ntmps18
  go_upto_region 1 with fail
  go_cut [6, 7] from 9 to 18 (fun v6 v7 wc => ∃ (p t h : Nat) (k : Int) (u : Bool), v6 = .pointer (some ⟨p, 0, none⟩) ∧ v7 = .nilIface ∧ Row4 wc p t dec h u ∧ CulmOK η k t h ∧ u = decide (k % 2 = 0) ∧ Bd ((k : Rat) * (4 * Q4) - η) (1571 / 1000) ∧ w.heap.size + 2 ≤ p ∧ Wld (w.heap.size + 2) ((w.alloc (.cells #[.nilFunc, .func (.func 17) #[] #[.pointer (some ⟨b5, 0, none⟩), .pointer (some ⟨b6, 0, none⟩)], .float .f64 sa, .float .f64 sl, .float .f64 cl] 31)).alloc (.cells #[.float .f64 zt, .float .f64 dec, .float .f64 hs] 43)) wc)
  case first =>
    go_region_held3 (fun W => W.cell? ⟨w.heap.size, 0, none⟩ = some .nilFunc ∧ W.cell? ⟨w.heap.size, 1, none⟩ = some (.func (.func 17) #[] #[.pointer (some ⟨b5, 0, none⟩), .pointer (some ⟨b6, 0, none⟩)]) ∧ W.cell? ⟨w.heap.size, 2, none⟩ = some (.float .f64 sa) ∧ W.cell? ⟨w.heap.size, 3, none⟩ = some (.float .f64 sl) ∧ W.cell? ⟨w.heap.size, 4, none⟩ = some (.float .f64 cl) ∧ W.cell? ⟨b5, 0, none⟩ = some (.float .f64 dec) ∧ W.cell? ⟨b6, 0, none⟩ = some (.float .f64 h0) ∧ W.cell? ⟨1, 0, none⟩ = some (.float .f64 4618779624111797601) ∧ W.cell? ⟨0, 0, none⟩ = some (.float .f64 4607157826112761935) ∧ W.cell? ⟨w.heap.size + 1, 2, none⟩ = some (.float .f64 hs) ∧ Wld (w.heap.size + 2) ((w.alloc (.cells #[.nilFunc, .func (.func 17) #[] #[.pointer (some ⟨b5, 0, none⟩), .pointer (some ⟨b6, 0, none⟩)], .float .f64 sa, .float .f64 sl, .float .f64 cl] 31)).alloc (.cells #[.float .f64 zt, .float .f64 dec, .float .f64 hs] 43)) W)
      (first
        | (refine held _ ?_; go_split_ands; (repeat (first | with_reducible assumption | with_reducible exact hst | with_reducible refine Wld.drew ?_ | with_reducible refine Wld.alloc ?_ _ | (with_reducible refine Wld.set ?_ (by dsimp only; omega) _))) <;> fail))
      (first
        | (go_at_call 23; refine (csg _).mono ?_; rintro e w'' ⟨⟨r1, q, mm, rfl, v1, v2, v3⟩, hw⟩; rw [hw]; clear hw; obtain ⟨k, ub, hub, hu2, hbd⟩ := F0 r1 ⟨q, mm, v1, v2, v3⟩; have hu2' : Hid (ub = decide (k % 2 = 0)) := hu2; have hbd' : Hid (Bd ((k : Rat) * (4 * Q4) - η) (1571 / 1000)) := hbd; have cab := abs_any r1 (fv_lt v1); clear hu2 hbd v1 v2 v3)
        | (go_at_call 22; refine (cab _).mono ?_; rintro e w'' ⟨rfl, hw⟩; rw [hw]; clear hw)
        | (go_at_call 21; go_split_ands; (with_reducible refine Calls.mono (F1 k ub hu2'.out hbd'.out _ ?_ ?_ ?_) ?_; assumption; assumption; assumption); rintro e w' ⟨⟨t, h, rfl, hok⟩, hbW⟩; have hWw := Wld.call ‹Wld (w.heap.size + 2) _ _› hbW; have hsz := hWw.size; (first | (have hz1 : Z4 _ (w.heap.size + 1 + 1) := Z4.call (Z4.drew (Z4.new (by simp))) hbW; have hz1a := hz1.c0; have hz1b := hz1.c1; have hz1c := hz1.c2; have hz1d := hz1.c3; have hz1e := hz1.f0; have hz1f := hz1.f1; have hz1g := hz1.f2; have hz1h := hz1.f3; have hz1i := hz1.lt) | skip)))
    all_goals (go_wp2_with fail; go_meet; case rel => (go_split_ands; refine ⟨_, t, h, k, ub, rfl, rfl, ?_, hok, hu2'.out, hbd'.out, ?_, ?_⟩; (first | exact Row4.new rfl | exact hz1.row); (first | omega | (simp; omega)); (repeat (first | with_reducible assumption | with_reducible refine Wld.alloc ?_ _ | (with_reducible refine Wld.set ?_ (by dsimp only; omega) _)))))
  case rest =>
    obtain ⟨p, t, h, k, u, rfl, rfl, hrow, hok, hu, hbk, hp, hwd⟩ := hcut
    rename World => wq
    obtain ⟨i47, hi47, hz47, hs47, hb47⟩ := info_parts i47
    have hlq := hrow.lt
    have hok0 : ∀ m : Nat, m ≤ 0 → CulmOK η (k + (m : Int)) t h := fun m hm => by
      obtain rfl : m = 0 := by omega
      simpa using hok
    have hinv0 : Hid (CuInv η dec k p wq.heap.size (w.heap.size + 2) ((w.alloc (.cells #[.nilFunc, .func (.func 17) #[] #[.pointer (some ⟨b5, 0, none⟩), .pointer (some ⟨b6, 0, none⟩)], .float .f64 sa, .float .f64 sl, .float .f64 cl] 31)).alloc (.cells #[.float .f64 zt, .float .f64 dec, .float .f64 hs] 43)) 0 (.slice none 0 0) wq) := ⟨fun _ => t, fun _ => h, World.ownsRow_nil _ _ _ _, by simpa [hu] using hrow, hok0, fun m hm => absurd hm (by omega), hwd, Nat.le_refl _, by omega⟩
    have fsd := runDiv sd_half
    have CA := fun t0 τ d k u hu ht bt bd bb hk w g1 c5 c6 => culm_any H b5 b6 t0 τ d k u hu ht bt bd bb hk w g1 c5 c6
    have hdone : ∀ W, Wld (w.heap.size + 2) ((w.alloc (.cells #[.nilFunc, .func (.func 17) #[] #[.pointer (some ⟨b5, 0, none⟩), .pointer (some ⟨b6, 0, none⟩)], .float .f64 sa, .float .f64 sl, .float .f64 cl] 31)).alloc (.cells #[.float .f64 zt, .float .f64 dec, .float .f64 hs] 43)) W → Below w.heap.size w W := fun W h => (((Below.refl w.heap.size w).alloc (Nat.le_refl _) _).alloc (by simp) _).trans (h.below.mono (by omega))
    have hqw : w.heap.size ≤ wq.heap.size := by have := hwd.size; omega
    have hq2 : w.heap.size + 2 ≤ wq.heap.size := hwd.size
    clear hrow hok hok0 hu hwd F0 F1 csg hst hηs dη bηs
    go_wp2_with fail
    go_loopw [7, 8, 22] (fun v7 v8 vi wr => ∃ i : Nat, vi = .int .i64 i ∧ v7 = .nilIface ∧ CuInv η dec k p wq.heap.size (w.heap.size + 2) ((w.alloc (.cells #[.nilFunc, .func (.func 17) #[] #[.pointer (some ⟨b5, 0, none⟩), .pointer (some ⟨b6, 0, none⟩)], .float .f64 sa, .float .f64 sl, .float .f64 cl] 31)).alloc (.cells #[.float .f64 zt, .float .f64 dec, .float .f64 hs] 43)) i v8 wr) (fun _ _ i _ => 8 - (intOf i).toNat)
    case atStart => exact ⟨0, rfl, rfl, hinv0.out⟩
    case round =>
      rename World => wA
      obtain ⟨i, rfl, rfl, T, Hh, hown, hrow, hall, hlt1, hwA, hszA, hi3⟩ := hrel
      obtain ⟨kc0, kc1, kc2, kc3, kc4, kc5, kc6, kc7, kc8, _, _⟩ := held wA hwA
      have r0 := hrow.c0
      have r1 := hrow.c1
      have r2 := hrow.c2
      have r3 := hrow.c3
      have i8 : (i : Int) < 8 := by omega
      have ii0 : (0 : Int) ≤ (i : Int) := by omega
      have lpA : p < wA.heap.size := hrow.lt
      generalize hub : decide ((k + i) % 2 = 0) = ub at hrow r3
      go_upto_region 8 with (at_builtin; refine wpList_append_lies _ rfl (.tmp 24) (.tmp 26) 33 rfl wq.heap.size 47 i47 _ 4 32 Tryf.underlying33 hi47 hz47 hs47 hb47 rfl (by decide) u8 i _ rfl (hown.alloc _) ⟨wA.heap.size, 0, none⟩ 1 1 (news4 (T i) dec (Hh i) ub) rfl rfl (news4_cell rfl) news4_one (by omega) (by unfold maxLen; omega) (by omega) (by simp; omega) _ rfl ?_; intro g' c' w2 hown2 hgrow2 hat hlt2)
      have hB2 : Below wq.heap.size wA w2 := ((Below.refl wq.heap.size wA).alloc hszA _).grown hgrow2 (by simp; omega) (own_ge hown)
      have hrow2 := hrow.far hB2 hlq
      have hw2 : Wld (w.heap.size + 2) ((w.alloc (.cells #[.nilFunc, .func (.func 17) #[] #[.pointer (some ⟨b5, 0, none⟩), .pointer (some ⟨b6, 0, none⟩)], .float .f64 sa, .float .f64 sl, .float .f64 cl] 31)).alloc (.cells #[.float .f64 zt, .float .f64 dec, .float .f64 hs] 43)) w2 := ⟨hwA.below.trans (hB2.mono hq2), Nat.le_trans hwA.size hB2.size⟩
      have hsz2 : wq.heap.size ≤ w2.heap.size := Nat.le_trans hszA hB2.size
      have ecl : cells4 T Hh dec k (i + 1) = cells4 T Hh dec k i ++ news4 (T i) dec (Hh i) ub := by rw [cells4, hub]; rfl
      rw [← ecl] at hown2
      obtain ⟨jc0, jc1, jc2, jc3, jc4, jc5, jc6, jc7, jc8, _, _⟩ := held w2 hw2
      have v0 := hrow2.c0
      have v3 := hrow2.c3
      rcases ge_or (T i) (Hh i) (hall i (Nat.le_refl _)) with ⟨hge, h1⟩ | ⟨hlt, hL⟩
      · have hres : Hid (IsCulms η dec w.heap.size (.returned (.tuple #[.slice (some ⟨g', 0, none⟩) (i + 1) c', .nilIface])) w2) := ⟨g', c', i + 1, k, T, Hh, rfl, own_mono hown2 hqw, fun m hm => hall m (by omega), fun m hm => hlt1 m (by omega), h1, by omega, by omega, hbk⟩
        have hbz : Hid (Below w.heap.size w w2) := hdone w2 hw2
        clear hall hlt1 h1 hown hown2 hgrow2 hB2 hwA hw2 held hdone CA hrow hrow2
        go_wp2_with fail
        go_ret2
        exact ⟨hres.out, hbz.out⟩
      · obtain ⟨hi2, t2, τ2, d, a1, a2, a3, a4, a5, a6⟩ := culm_next (hall i (Nat.le_refl _)) hL hbk
        have fadd := runAdd a1
        have cc := CA t2 τ2 d (k + (i + 1 : Nat)) (!ub) (by rw [← hub, par_next]; congr 2; omega) a2 a3 a4 a5 a6 w2 jc7 jc5 jc6
        have hnxt : Hid (∀ t' h' w3, w3.ownsRow wq.heap.size 47 4 (.slice (some ⟨g', 0, none⟩) (i + 1) c') (i + 1) (cells4 T Hh dec k (i + 1)) → Row4 w3 p t' dec h' (!ub) → CulmOK η (k + (i + 1 : Nat)) t' h' → Wld (w.heap.size + 2) ((w.alloc (.cells #[.nilFunc, .func (.func 17) #[] #[.pointer (some ⟨b5, 0, none⟩), .pointer (some ⟨b6, 0, none⟩)], .float .f64 sa, .float .f64 sl, .float .f64 cl] 31)).alloc (.cells #[.float .f64 zt, .float .f64 dec, .float .f64 hs] 43)) w3 → wq.heap.size ≤ w3.heap.size → CuInv η dec k p wq.heap.size (w.heap.size + 2) ((w.alloc (.cells #[.nilFunc, .func (.func 17) #[] #[.pointer (some ⟨b5, 0, none⟩), .pointer (some ⟨b6, 0, none⟩)], .float .f64 sa, .float .f64 sl, .float .f64 cl] 31)).alloc (.cells #[.float .f64 zt, .float .f64 dec, .float .f64 hs] 43)) (i + 1) (.slice (some ⟨g', 0, none⟩) (i + 1) c') w3) := fun t' h' w3 q1 q2 q3 q4 q5 => CuInv.next q1 (by rw [← hub, par_next] at q2; rw [show k + ((i + 1 : Nat) : Int) = k + (i : Int) + 1 by omega]; exact q2) hall q3 hlt1 hL q4 q5 hi2
        clear hall hlt1 hown hgrow2 hB2 hwA held hdone CA hrow a1 a2 a3 a4 a5 a6 kc0 kc1 kc2 kc3 kc4 kc5 kc6 kc7 kc8 r0 r1 r2 r3 hL
        go_wp2_with (go_at_call 21; refine cc.mono ?_; rintro e w' ⟨⟨t', h', rfl, hok'⟩, hbW⟩; have hrow3 := hrow2.call hbW; have z0 := hrow3.c0; have z1 := hrow3.c1; have z2 := hrow3.c2; have z3 := hrow3.c3; have y0 := hrow3.f0; have y1 := hrow3.f1; have y2 := hrow3.f2; have y3 := hrow3.f3; have hown3 := own_keep hown2 hbW; have hw3 := hw2.call hbW; have hsz3 := hbW.size)
        go_roundw
        case rel => exact ⟨i + 1, by go_num, rfl, hnxt.out t' h' _ (own_set (own_set (own_set (own_set hown3 hlq _) hlq _) hlq _) hlq _) hrow3.set hok' ((((hw3.set hp _).set hp _).set hp _).set hp _) (by simp; omega)⟩
        case measure => simp [intOf]; omega
end Go.Proofs.Qxb6609382aFmt.W
