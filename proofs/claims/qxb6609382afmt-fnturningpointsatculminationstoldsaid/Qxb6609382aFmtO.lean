import Derived.Test.Qxb6609382aFmtM
import Derived.Test.Qxb6609382aFmtFu
namespace Go.Proofs.Qxb6609382aFmt.W
open Go.RowKit Go.Proofs.Qxb6609382aFmt.Fl
attribute [local go_sem] run_store_float

/-- A culmination's instant and hour angle: at the k-th multiple of pi. -/
def CulmOK (η : Rat) (k : Int) (t h : Nat) : Prop := ∃ τ q, fv t = some τ ∧ fv h = some q ∧ Bd (q - (η + Wr * τ)) (2 / 100000000000000) ∧ Bd (η + Wr * τ - (k : Rat) * (4 * Q4)) (2 / 10000000000000) ∧ Bd τ (16 / 10)

def Sgd (a : Rat) (r : Nat) : Prop := ∃ (q : Rat) (m : Int), fv r = some q ∧ Bd q (TP / 2 + 1 / 100000000000000) ∧ Bd (q - (a - (m : Rat) * TP)) (3 / 100000000000000)

/-- One round of a culmination's search, in facts for the walk. -/
def CRound (η : Rat) (h0 tg : Nat) (k : Int) (t : Nat) (near : Prop) : Prop :=
  ∃ m r x qx, Ieee.double.mul 4618779624111797601 t = some m ∧ Ieee.double.add h0 m = some r ∧ Ieee.double.sub tg r = some x ∧ fv x = some qx ∧ Bd qx 100 ∧
      ∀ (r1 : Nat), Sgd qx r1 → ∃ cc t2 m2 r2, Ieee.double.div r1 4618779624111797601 = some cc ∧ cc < 18446744073709551616 ∧ Ieee.double.add t cc = some t2 ∧ Ieee.double.mul 4618779624111797601 t2 = some m2 ∧ Ieee.double.add h0 m2 = some r2 ∧ CulmOK η k t2 r2 ∧
        (FloatKind.f64.format.order (absW cc) 4488077727726783735 = some .lt ∨ (FloatKind.f64.format.order (absW cc) 4488077727726783735 == some .lt) = false) ∧ (near → FloatKind.f64.format.order (absW cc) 4488077727726783735 = some .lt)

theorem culm_case {t h0 tg : Nat} {τ η d T : Rat} {j c k : Int} (hjk : k = 2 * j + c) (ht : fv t = some τ) (bt : Bd τ (16 / 10)) (hh : fv h0 = some η) (bh : Bd η 64) (bd : Bd d 2) (bb : Bd ((k : Rat) * (4 * Q4) - η) 10) (hT : fv tg = some T) (hc : (c = 0 ∧ T = 0) ∨ (c = 1 ∧ T = TP / 2)) (hk : η + Wr * τ = (k : Rat) * (4 * Q4) - d) :
    CRound η h0 tg k t (Bd d (1 / 1000000000)) := by
  have ekc : (k : Rat) = 2 * (j : Rat) + (c : Rat) := by
    rw [hjk, Rat.intCast_add, Rat.intCast_mul]; rfl
  obtain ⟨m, r, q, x, qx, e1, e2, e3, e4, e5, e6, e7, e8⟩ := culm_near ht bt hh bh bd hT c hc (by rw [← ekc]; exact hk)
  refine ⟨m, r, x, qx, e1, e2, e5, e6, e7, fun r1 h => ?_⟩
  obtain ⟨cc, t2, qc, τ2, f1, f2, f3, f4, f5, f6, f7⟩ := e8 r1 h
  rw [← ekc] at f7
  have w1 := Wr_lo; have w2 := Wr_hi
  have g1 := f5.1; have g2 := f5.2; have g3 := f6.1; have g4 := f6.2; have g5 := f7.1; have g6 := f7.2
  have b1 := bb.1; have b2 := bb.2
  have bτ : Bd τ2 (16 / 10) := by
    have k : Bd (τ2 * Wr) (1001 / 100) := ⟨by grind, by grind⟩
    have k1 := k.1; have k2 := k.2
    simp only [Wr] at k1 k2
    exact ⟨by grind, by grind⟩
  obtain ⟨m2, r2, q2, h1, h2, h3, h4, _⟩ := hour_wide f4 bτ hh bh
  obtain ⟨ac, a1, a2, a3, a4⟩ := abs_le f2 (A := 10) (by
    have bd1 := bd.1; have bd2 := bd.2
    simp only [Wr] at g1 g2
    exact ⟨by grind, by grind⟩)
  refine ⟨cc, t2, m2, r2, f1, fv_lt f2, f3, h1, h2, ⟨τ2, q2, f4, h3, h4, f7, bτ⟩, ?_, fun hd => ?_⟩
  · by_cases h : ac < St
    · exact Or.inl (ord_lt a1 fv_St h)
    · exact Or.inr (ord_nltB a1 fv_St (by grind))
  · have d1 := hd.1; have d2 := hd.2
    have s1 := St_lo
    simp only [Wr] at g1 g2
    exact ord_lt a1 fv_St (by rcases a4 with rfl | rfl <;> grind)

theorem culm_again {t h0 tg hh' : Nat} {η T : Rat} {j c k : Int} (hjk : k = 2 * j + c) (h : CulmOK η k t hh') (hh : fv h0 = some η) (bh : Bd η 64) (bb : Bd ((k : Rat) * (4 * Q4) - η) 10) (hT : fv tg = some T) (hc : (c = 0 ∧ T = 0) ∨ (c = 1 ∧ T = TP / 2)) :
    CRound η h0 tg k t True := by
  obtain ⟨τ', q', v1, v2, v3, v4, v5⟩ := h
  have x1 := v4.1; have x2 := v4.2
  obtain ⟨m, r, x, qx, e1, e2, e3, e4, e5, e6⟩ := culm_case (d := (k : Rat) * (4 * Q4) - (η + Wr * τ')) hjk v1 v5 hh bh ⟨by grind, by grind⟩ bb hT hc (by grind)
  refine ⟨m, r, x, qx, e1, e2, e3, e4, e5, fun r1 h1 => ?_⟩
  obtain ⟨cc, t2, m2, r2, f1, f2, f3, f4, f5, f6, f7, f8⟩ := e6 r1 h1
  exact ⟨cc, t2, m2, r2, f1, f2, f3, f4, f5, f6, f7, fun _ => f8 ⟨by grind, by grind⟩⟩

theorem run_field2 (a b c : Nat) (w : World) : (Instr.field 43 (.agg #[.float .f64 a, .float .f64 b, .float .f64 c]) 2).run Tryf.prog w = .ok (.float .f64 c) w := by
  simp [Instr.field, go_sem, part]
  rfl

abbrev culmV (t dec h : Nat) (u : Bool) : Value := .agg #[.float .f64 t, .float .f64 dec, .float .f64 h, .bool u]
def IsCulm (η : Rat) (k : Int) (dec : Nat) (u : Bool) (e : Ending) : Prop := ∃ t h, e = .returned (.tuple #[culmV t dec h u, .nilIface]) ∧ CulmOK η k t h

set_option maxHeartbeats 4000000 in
theorem culm_true {dec h0 sa sl cl : Nat} {δ η α σ κ : Rat} (H : DayOK dec h0 sa sl cl δ η α σ κ) (b5 b6 t0 : Nat) (τ d : Rat) (j k : Int) (hjk : k = 2 * j + 0) (ht : fv t0 = some τ) (bt : Bd τ (16 / 10)) (bd : Bd d 2) (bb : Bd ((k : Rat) * (4 * Q4) - η) 10) (hk : η + Wr * τ = (k : Rat) * (4 * Q4) - d)
    (w : World) (g1 : w.cell? ⟨1, 0, none⟩ = some (.float .f64 4618779624111797601)) (c5 : w.cell? ⟨b5, 0, none⟩ = some (.float .f64 dec)) (c6 : w.cell? ⟨b6, 0, none⟩ = some (.float .f64 h0)) :
    Calls Tryf.prog 21 #[dayV b5 b6 sa sl cl, .bool true, .float .f64 t0] w fun e w' => IsCulm η k dec true e ∧ Below w.heap.size w w' := by
  have l5 := lt_of_cell c5
  have l6 := lt_of_cell c6
  have l1 := lt_of_cell g1
  have F0 := culm_case hjk ht bt H.h0 H.bh0 bd bb fv_nought (Or.inl ⟨rfl, rfl⟩) hk
  have F1 := fun t hh (h : CulmOK η k t hh) => culm_again hjk h H.h0 H.bh0 bb fv_nought (Or.inl ⟨rfl, rfl⟩)
  clear ht bt bd bb hk hjk
  have held : ∀ W, Wld (w.heap.size + 2) ((w.alloc (.cells #[.nilFunc, .func (.func 17) #[] #[.pointer (some ⟨b5, 0, none⟩), .pointer (some ⟨b6, 0, none⟩)], .float .f64 sa, .float .f64 sl, .float .f64 cl] 31)).alloc (.cells #[.float .f64 0, .float .f64 0, .float .f64 0, .bool false] 47)) W → W.cell? ⟨w.heap.size, 0, none⟩ = some .nilFunc ∧ W.cell? ⟨w.heap.size, 1, none⟩ = some (.func (.func 17) #[] #[.pointer (some ⟨b5, 0, none⟩), .pointer (some ⟨b6, 0, none⟩)]) ∧ W.cell? ⟨w.heap.size, 2, none⟩ = some (.float .f64 sa) ∧ W.cell? ⟨w.heap.size, 3, none⟩ = some (.float .f64 sl) ∧ W.cell? ⟨w.heap.size, 4, none⟩ = some (.float .f64 cl) ∧ W.cell? ⟨b5, 0, none⟩ = some (.float .f64 dec) ∧ W.cell? ⟨b6, 0, none⟩ = some (.float .f64 h0) ∧ W.cell? ⟨1, 0, none⟩ = some (.float .f64 4618779624111797601) ∧ Wld (w.heap.size + 2) ((w.alloc (.cells #[.nilFunc, .func (.func 17) #[] #[.pointer (some ⟨b5, 0, none⟩), .pointer (some ⟨b6, 0, none⟩)], .float .f64 sa, .float .f64 sl, .float .f64 cl] 31)).alloc (.cells #[.float .f64 0, .float .f64 0, .float .f64 0, .bool false] 47)) W := fun W hW => by
    refine ⟨hW.cell (by omega) (by simp [go_sem]), hW.cell (by omega) (by simp [go_sem]), hW.cell (by omega) (by simp [go_sem]), hW.cell (by omega) (by simp [go_sem]), hW.cell (by omega) (by simp [go_sem]), hW.cell (by omega) (cell_al (cell_al c5 _) _), hW.cell (by omega) (cell_al (cell_al c6 _) _), hW.cell (by omega) (cell_al (cell_al g1 _) _), hW⟩
  have hst : Hid (Wld (w.heap.size + 2) ((w.alloc (.cells #[.nilFunc, .func (.func 17) #[] #[.pointer (some ⟨b5, 0, none⟩), .pointer (some ⟨b6, 0, none⟩)], .float .f64 sa, .float .f64 sl, .float .f64 cl] 31)).alloc (.cells #[.float .f64 0, .float .f64 0, .float .f64 0, .bool false] 47)) ((w.alloc (.cells #[.nilFunc, .func (.func 17) #[] #[.pointer (some ⟨b5, 0, none⟩), .pointer (some ⟨b6, 0, none⟩)], .float .f64 sa, .float .f64 sl, .float .f64 cl] 31)).alloc (.cells #[.float .f64 0, .float .f64 0, .float .f64 0, .bool false] 47))) := ⟨Below.refl _ _, by simp⟩
  have hdone : ∀ W, Wld (w.heap.size + 2) ((w.alloc (.cells #[.nilFunc, .func (.func 17) #[] #[.pointer (some ⟨b5, 0, none⟩), .pointer (some ⟨b6, 0, none⟩)], .float .f64 sa, .float .f64 sl, .float .f64 cl] 31)).alloc (.cells #[.float .f64 0, .float .f64 0, .float .f64 0, .bool false] 47)) W → Below w.heap.size w W := fun W h => (((Below.refl w.heap.size w).alloc (Nat.le_refl _) _).alloc (by simp) _).trans (h.below.mono (by omega))
  go_enter Tryf.func21, Tryf.ntmps21
  go_wp2_with fail
  go_loopw [2, 10, 12] (fun vt _ vi wr => ∃ (i t : Nat), vt = .float .f64 t ∧ vi = .int .i64 i ∧ ((i = 0 ∧ t = t0) ∨ (i = 1 ∧ ∃ hh, CulmOK η k t hh)) ∧ Wld (w.heap.size + 2) ((w.alloc (.cells #[.nilFunc, .func (.func 17) #[] #[.pointer (some ⟨b5, 0, none⟩), .pointer (some ⟨b6, 0, none⟩)], .float .f64 sa, .float .f64 sl, .float .f64 cl] 31)).alloc (.cells #[.float .f64 0, .float .f64 0, .float .f64 0, .bool false] 47)) wr) (fun _ _ i _ => 20 - (intOf i).toNat)
  case atStart => exact ⟨0, t0, rfl, rfl, Or.inl ⟨rfl, rfl⟩, hst.out⟩
  case round =>
    rename World => wA
    obtain ⟨i, t, rfl, rfl, hinv, hwA⟩ := hrel
    obtain ⟨k0, k1, k2, k3, k4, k5, k6, k7, _⟩ := held wA hwA
    rcases hinv with ⟨rfl, rfl⟩ | ⟨rfl, hh, hok⟩
    · obtain ⟨m, r, x, qx, e1, e2, e3, e4, e5, e6⟩ := F0
      clear F1
      have f1 := runSub e3
      have cat : ∀ W, W.cell? ⟨b5, 0, none⟩ = some (.float .f64 dec) → W.cell? ⟨b6, 0, none⟩ = some (.float .f64 h0) → Calls Tryf.prog 19 #[dayV b5 b6 sa sl cl, .float .f64 t] W fun e w' => e = .returned (.agg #[.float .f64 t, .float .f64 dec, .float .f64 r]) ∧ Below W.heap.size W w' := fun W c5 c6 => at_any t dec h0 m r b5 b6 sa sl cl e1 e2 W c5 c6
      have csg := signed_any x qx e4 e5
      have ffl := run_field2 t dec r
      clear e1 e2 e3
      go_upto_region 7 with fail
      go_cut [10] from 14 to 22 (fun v wd => ∃ r1 cc, v = .float .f64 cc ∧ Ieee.double.div r1 4618779624111797601 = some cc ∧ Sgd qx r1 ∧ Wld (w.heap.size + 2) ((w.alloc (.cells #[.nilFunc, .func (.func 17) #[] #[.pointer (some ⟨b5, 0, none⟩), .pointer (some ⟨b6, 0, none⟩)], .float .f64 sa, .float .f64 sl, .float .f64 cl] 31)).alloc (.cells #[.float .f64 0, .float .f64 0, .float .f64 0, .bool false] 47)) wd)
      case first =>
        have fdiv : ∀ r1, Sgd qx r1 → ∃ cc, Ieee.double.div r1 4618779624111797601 = some cc := fun r1 h => by
          obtain ⟨cc, _, _, _, h1, _⟩ := e6 r1 h
          exact ⟨cc, h1⟩
        go_region_held3 (fun W => W.cell? ⟨w.heap.size, 0, none⟩ = some .nilFunc ∧ W.cell? ⟨w.heap.size, 1, none⟩ = some (.func (.func 17) #[] #[.pointer (some ⟨b5, 0, none⟩), .pointer (some ⟨b6, 0, none⟩)]) ∧ W.cell? ⟨w.heap.size, 2, none⟩ = some (.float .f64 sa) ∧ W.cell? ⟨w.heap.size, 3, none⟩ = some (.float .f64 sl) ∧ W.cell? ⟨w.heap.size, 4, none⟩ = some (.float .f64 cl) ∧ W.cell? ⟨b5, 0, none⟩ = some (.float .f64 dec) ∧ W.cell? ⟨b6, 0, none⟩ = some (.float .f64 h0) ∧ W.cell? ⟨1, 0, none⟩ = some (.float .f64 4618779624111797601) ∧ Wld (w.heap.size + 2) ((w.alloc (.cells #[.nilFunc, .func (.func 17) #[] #[.pointer (some ⟨b5, 0, none⟩), .pointer (some ⟨b6, 0, none⟩)], .float .f64 sa, .float .f64 sl, .float .f64 cl] 31)).alloc (.cells #[.float .f64 0, .float .f64 0, .float .f64 0, .bool false] 47)) W)
          (first
            | (refine held _ ?_; go_split_ands; (repeat (first | with_reducible assumption | with_reducible refine Wld.drew ?_)) <;> fail))
          (first
            | (go_at_call 19; go_split_ands; with_reducible refine Calls.mono (cat _ ?_ ?_) ?_; assumption; assumption; rintro e w' ⟨rfl, hbW⟩; have hWw := Wld.call ‹Wld (w.heap.size + 2) _ _› hbW)
            | (go_at_call 23; refine (csg _).mono ?_; rintro e w'' ⟨⟨r1, q, mm, rfl, v1, v2, v3⟩, hw⟩; rw [hw]; clear hw; obtain ⟨cc, hcc⟩ := fdiv r1 ⟨q, mm, v1, v2, v3⟩; have fcc := runDiv hcc; have hS1 : Sgd qx r1 := ⟨q, mm, v1, v2, v3⟩))
        go_wp2_with fail
        go_meet
        case rel => (go_split_ands; exact ⟨_, _, rfl, hcc, hS1, by with_reducible assumption⟩)
      case rest =>
        obtain ⟨r1, cc, rfl, hcc, hS1, hwd⟩ := hcut
        obtain ⟨cc', t2, m2, r2, a1, a2, a3, a4, a5, a6, a7, a8⟩ := e6 r1 hS1
        obtain rfl : cc = cc' := by rw [hcc] at a1; exact Option.some.inj a1
        have f3 := runAdd a3
        have cab := abs_any cc a2
        obtain ⟨k0, k1, k2, k3, k4, k5, k6, k7, _⟩ := held wc hwd
        have cat2 := at_any t2 dec h0 m2 r2 b5 b6 sa sl cl a4 a5 wc k5 k6
        have hl : w.heap.size + 1 < wc.heap.size := by have := hwd.size; omega
        have r0 := hwd.cell (b := w.heap.size + 1) (o := 0) (v := .float .f64 0) (by omega) (by simp)
        have r1' := hwd.cell (b := w.heap.size + 1) (o := 1) (v := .float .f64 0) (by omega) (by simp)
        have r2' := hwd.cell (b := w.heap.size + 1) (o := 2) (v := .float .f64 0) (by omega) (by simp)
        have r3 := hwd.cell (b := w.heap.size + 1) (o := 3) (v := .bool false) (by omega) (by simp)
        have fz : ∀ o, wc.frozen? ⟨w.heap.size + 1, o, none⟩ = false := fun o => by rw [hwd.below.frozen (by simp)]; simp
        rcases a7 with a7 | a7
        · clear a1 a3 a4 a5 hcc e6
          go_wp2_with (first | (go_at_call 22; refine (cab _).mono ?_; rintro e w'' ⟨rfl, hw⟩; rw [hw]; clear hw) | (go_at_call 19; refine cat2.mono ?_; rintro e w' ⟨rfl, hbW⟩; have y0 := cell_in hbW r0; have y1 := cell_in hbW r1'; have y2 := cell_in hbW r2'; have y3 := cell_in hbW r3; have z0 := (hbW.frozen (p := ⟨w.heap.size + 1, 0, none⟩) hl).trans (fz 0); have z1 := (hbW.frozen (p := ⟨w.heap.size + 1, 1, none⟩) hl).trans (fz 1); have z2 := (hbW.frozen (p := ⟨w.heap.size + 1, 2, none⟩) hl).trans (fz 2); have z3 := (hbW.frozen (p := ⟨w.heap.size + 1, 3, none⟩) hl).trans (fz 3); have hWw := Wld.call hwd hbW))
          have hb0 := hdone _ hWw
          obtain ⟨WF, hWF⟩ : ∃ X, X = ((((w'.setCell ⟨w.heap.size + 1, 0, none⟩ (.float .f64 t2)).setCell ⟨w.heap.size + 1, 1, none⟩ (.float .f64 dec)).setCell ⟨w.heap.size + 1, 2, none⟩ (.float .f64 r2)).setCell ⟨w.heap.size + 1, 3, none⟩ (.bool true)) := ⟨_, rfl⟩
          have p0 : WF.cell? ⟨w.heap.size + 1, 0, none⟩ = some (.float .f64 t2) := by rw [hWF]; exact cso (by omega) (cso (by omega) (cso (by omega) (World.cell?_setCell_same _ _ _ y0)))
          have p1 : WF.cell? ⟨w.heap.size + 1, 1, none⟩ = some (.float .f64 dec) := by rw [hWF]; exact cso (by omega) (cso (by omega) (World.cell?_setCell_same _ _ _ (cso (by omega) y1)))
          have p2 : WF.cell? ⟨w.heap.size + 1, 2, none⟩ = some (.float .f64 r2) := by rw [hWF]; exact cso (by omega) (World.cell?_setCell_same _ _ _ (cso (by omega) (cso (by omega) y2)))
          have p3 : WF.cell? ⟨w.heap.size + 1, 3, none⟩ = some (.bool true) := by rw [hWF]; exact World.cell?_setCell_same _ _ _ (cso (by omega) (cso (by omega) (cso (by omega) y3)))
          have hbF : Below w.heap.size w WF := by rw [hWF]; exact (((hb0.setCell (by simp) _).setCell (by simp) _).setCell (by simp) _).setCell (by simp) _
          rw [← hWF]
          exact bodyPost_ret (v := .tuple #[culmV t2 dec r2 true, .nilIface]) (by simp [results, Tryf.results21, go_sem, p0, p1, p2, p3]) rfl ⟨⟨t2, r2, rfl, a6⟩, hbF⟩
        · clear a1 a3 a4 a5 hcc e6
          go_wp2_with (go_at_call 22; refine (cab _).mono ?_; rintro e w'' ⟨rfl, hw⟩; rw [hw]; clear hw)
          go_roundw
          case rel => exact ⟨1, t2, rfl, by go_num, Or.inr ⟨rfl, r2, a6⟩, hwd⟩
          case measure => simp [intOf]
    · obtain ⟨m, r, x, qx, e1, e2, e3, e4, e5, e6⟩ := F1 t hh hok
      clear F0
      have f1 := runSub e3
      have cat : ∀ W, W.cell? ⟨b5, 0, none⟩ = some (.float .f64 dec) → W.cell? ⟨b6, 0, none⟩ = some (.float .f64 h0) → Calls Tryf.prog 19 #[dayV b5 b6 sa sl cl, .float .f64 t] W fun e w' => e = .returned (.agg #[.float .f64 t, .float .f64 dec, .float .f64 r]) ∧ Below W.heap.size W w' := fun W c5 c6 => at_any t dec h0 m r b5 b6 sa sl cl e1 e2 W c5 c6
      have csg := signed_any x qx e4 e5
      have ffl := run_field2 t dec r
      clear e1 e2 e3
      go_upto_region 7 with fail
      go_cut [10] from 14 to 22 (fun v wd => ∃ r1 cc, v = .float .f64 cc ∧ Ieee.double.div r1 4618779624111797601 = some cc ∧ Sgd qx r1 ∧ Wld (w.heap.size + 2) ((w.alloc (.cells #[.nilFunc, .func (.func 17) #[] #[.pointer (some ⟨b5, 0, none⟩), .pointer (some ⟨b6, 0, none⟩)], .float .f64 sa, .float .f64 sl, .float .f64 cl] 31)).alloc (.cells #[.float .f64 0, .float .f64 0, .float .f64 0, .bool false] 47)) wd)
      case first =>
        have fdiv : ∀ r1, Sgd qx r1 → ∃ cc, Ieee.double.div r1 4618779624111797601 = some cc := fun r1 h => by
          obtain ⟨cc, _, _, _, h1, _⟩ := e6 r1 h
          exact ⟨cc, h1⟩
        go_region_held3 (fun W => W.cell? ⟨w.heap.size, 0, none⟩ = some .nilFunc ∧ W.cell? ⟨w.heap.size, 1, none⟩ = some (.func (.func 17) #[] #[.pointer (some ⟨b5, 0, none⟩), .pointer (some ⟨b6, 0, none⟩)]) ∧ W.cell? ⟨w.heap.size, 2, none⟩ = some (.float .f64 sa) ∧ W.cell? ⟨w.heap.size, 3, none⟩ = some (.float .f64 sl) ∧ W.cell? ⟨w.heap.size, 4, none⟩ = some (.float .f64 cl) ∧ W.cell? ⟨b5, 0, none⟩ = some (.float .f64 dec) ∧ W.cell? ⟨b6, 0, none⟩ = some (.float .f64 h0) ∧ W.cell? ⟨1, 0, none⟩ = some (.float .f64 4618779624111797601) ∧ Wld (w.heap.size + 2) ((w.alloc (.cells #[.nilFunc, .func (.func 17) #[] #[.pointer (some ⟨b5, 0, none⟩), .pointer (some ⟨b6, 0, none⟩)], .float .f64 sa, .float .f64 sl, .float .f64 cl] 31)).alloc (.cells #[.float .f64 0, .float .f64 0, .float .f64 0, .bool false] 47)) W)
          (first
            | (refine held _ ?_; go_split_ands; (repeat (first | with_reducible assumption | with_reducible refine Wld.drew ?_)) <;> fail))
          (first
            | (go_at_call 19; go_split_ands; with_reducible refine Calls.mono (cat _ ?_ ?_) ?_; assumption; assumption; rintro e w' ⟨rfl, hbW⟩; have hWw := Wld.call ‹Wld (w.heap.size + 2) _ _› hbW)
            | (go_at_call 23; refine (csg _).mono ?_; rintro e w'' ⟨⟨r1, q, mm, rfl, v1, v2, v3⟩, hw⟩; rw [hw]; clear hw; obtain ⟨cc, hcc⟩ := fdiv r1 ⟨q, mm, v1, v2, v3⟩; have fcc := runDiv hcc; have hS1 : Sgd qx r1 := ⟨q, mm, v1, v2, v3⟩))
        go_wp2_with fail
        go_meet
        case rel => (go_split_ands; exact ⟨_, _, rfl, hcc, hS1, by with_reducible assumption⟩)
      case rest =>
        obtain ⟨r1, cc, rfl, hcc, hS1, hwd⟩ := hcut
        obtain ⟨cc', t2, m2, r2, a1, a2, a3, a4, a5, a6, a7, a8⟩ := e6 r1 hS1
        obtain rfl : cc = cc' := by rw [hcc] at a1; exact Option.some.inj a1
        have f3 := runAdd a3
        have cab := abs_any cc a2
        obtain ⟨k0, k1, k2, k3, k4, k5, k6, k7, _⟩ := held wc hwd
        have cat2 := at_any t2 dec h0 m2 r2 b5 b6 sa sl cl a4 a5 wc k5 k6
        have hl : w.heap.size + 1 < wc.heap.size := by have := hwd.size; omega
        have r0 := hwd.cell (b := w.heap.size + 1) (o := 0) (v := .float .f64 0) (by omega) (by simp)
        have r1' := hwd.cell (b := w.heap.size + 1) (o := 1) (v := .float .f64 0) (by omega) (by simp)
        have r2' := hwd.cell (b := w.heap.size + 1) (o := 2) (v := .float .f64 0) (by omega) (by simp)
        have r3 := hwd.cell (b := w.heap.size + 1) (o := 3) (v := .bool false) (by omega) (by simp)
        have fz : ∀ o, wc.frozen? ⟨w.heap.size + 1, o, none⟩ = false := fun o => by rw [hwd.below.frozen (by simp)]; simp
        have a7 := a8 trivial
        · clear a1 a3 a4 a5 hcc e6
          go_wp2_with (first | (go_at_call 22; refine (cab _).mono ?_; rintro e w'' ⟨rfl, hw⟩; rw [hw]; clear hw) | (go_at_call 19; refine cat2.mono ?_; rintro e w' ⟨rfl, hbW⟩; have y0 := cell_in hbW r0; have y1 := cell_in hbW r1'; have y2 := cell_in hbW r2'; have y3 := cell_in hbW r3; have z0 := (hbW.frozen (p := ⟨w.heap.size + 1, 0, none⟩) hl).trans (fz 0); have z1 := (hbW.frozen (p := ⟨w.heap.size + 1, 1, none⟩) hl).trans (fz 1); have z2 := (hbW.frozen (p := ⟨w.heap.size + 1, 2, none⟩) hl).trans (fz 2); have z3 := (hbW.frozen (p := ⟨w.heap.size + 1, 3, none⟩) hl).trans (fz 3); have hWw := Wld.call hwd hbW))
          have hb0 := hdone _ hWw
          obtain ⟨WF, hWF⟩ : ∃ X, X = ((((w'.setCell ⟨w.heap.size + 1, 0, none⟩ (.float .f64 t2)).setCell ⟨w.heap.size + 1, 1, none⟩ (.float .f64 dec)).setCell ⟨w.heap.size + 1, 2, none⟩ (.float .f64 r2)).setCell ⟨w.heap.size + 1, 3, none⟩ (.bool true)) := ⟨_, rfl⟩
          have p0 : WF.cell? ⟨w.heap.size + 1, 0, none⟩ = some (.float .f64 t2) := by rw [hWF]; exact cso (by omega) (cso (by omega) (cso (by omega) (World.cell?_setCell_same _ _ _ y0)))
          have p1 : WF.cell? ⟨w.heap.size + 1, 1, none⟩ = some (.float .f64 dec) := by rw [hWF]; exact cso (by omega) (cso (by omega) (World.cell?_setCell_same _ _ _ (cso (by omega) y1)))
          have p2 : WF.cell? ⟨w.heap.size + 1, 2, none⟩ = some (.float .f64 r2) := by rw [hWF]; exact cso (by omega) (World.cell?_setCell_same _ _ _ (cso (by omega) (cso (by omega) y2)))
          have p3 : WF.cell? ⟨w.heap.size + 1, 3, none⟩ = some (.bool true) := by rw [hWF]; exact World.cell?_setCell_same _ _ _ (cso (by omega) (cso (by omega) (cso (by omega) y3)))
          have hbF : Below w.heap.size w WF := by rw [hWF]; exact (((hb0.setCell (by simp) _).setCell (by simp) _).setCell (by simp) _).setCell (by simp) _
          rw [← hWF]
          exact bodyPost_ret (v := .tuple #[culmV t2 dec r2 true, .nilIface]) (by simp [results, Tryf.results21, go_sem, p0, p1, p2, p3]) rfl ⟨⟨t2, r2, rfl, a6⟩, hbF⟩

set_option maxHeartbeats 4000000 in
theorem culm_false {dec h0 sa sl cl : Nat} {δ η α σ κ : Rat} (H : DayOK dec h0 sa sl cl δ η α σ κ) (b5 b6 t0 : Nat) (τ d : Rat) (j k : Int) (hjk : k = 2 * j + 1) (ht : fv t0 = some τ) (bt : Bd τ (16 / 10)) (bd : Bd d 2) (bb : Bd ((k : Rat) * (4 * Q4) - η) 10) (hk : η + Wr * τ = (k : Rat) * (4 * Q4) - d)
    (w : World) (g1 : w.cell? ⟨1, 0, none⟩ = some (.float .f64 4618779624111797601)) (c5 : w.cell? ⟨b5, 0, none⟩ = some (.float .f64 dec)) (c6 : w.cell? ⟨b6, 0, none⟩ = some (.float .f64 h0)) :
    Calls Tryf.prog 21 #[dayV b5 b6 sa sl cl, .bool false, .float .f64 t0] w fun e w' => IsCulm η k dec false e ∧ Below w.heap.size w w' := by
  have l5 := lt_of_cell c5
  have l6 := lt_of_cell c6
  have l1 := lt_of_cell g1
  have F0 := culm_case hjk ht bt H.h0 H.bh0 bd bb fv_half_turn (Or.inr ⟨rfl, rfl⟩) hk
  have F1 := fun t hh (h : CulmOK η k t hh) => culm_again hjk h H.h0 H.bh0 bb fv_half_turn (Or.inr ⟨rfl, rfl⟩)
  clear ht bt bd bb hk hjk
  have held : ∀ W, Wld (w.heap.size + 2) ((w.alloc (.cells #[.nilFunc, .func (.func 17) #[] #[.pointer (some ⟨b5, 0, none⟩), .pointer (some ⟨b6, 0, none⟩)], .float .f64 sa, .float .f64 sl, .float .f64 cl] 31)).alloc (.cells #[.float .f64 0, .float .f64 0, .float .f64 0, .bool false] 47)) W → W.cell? ⟨w.heap.size, 0, none⟩ = some .nilFunc ∧ W.cell? ⟨w.heap.size, 1, none⟩ = some (.func (.func 17) #[] #[.pointer (some ⟨b5, 0, none⟩), .pointer (some ⟨b6, 0, none⟩)]) ∧ W.cell? ⟨w.heap.size, 2, none⟩ = some (.float .f64 sa) ∧ W.cell? ⟨w.heap.size, 3, none⟩ = some (.float .f64 sl) ∧ W.cell? ⟨w.heap.size, 4, none⟩ = some (.float .f64 cl) ∧ W.cell? ⟨b5, 0, none⟩ = some (.float .f64 dec) ∧ W.cell? ⟨b6, 0, none⟩ = some (.float .f64 h0) ∧ W.cell? ⟨1, 0, none⟩ = some (.float .f64 4618779624111797601) ∧ Wld (w.heap.size + 2) ((w.alloc (.cells #[.nilFunc, .func (.func 17) #[] #[.pointer (some ⟨b5, 0, none⟩), .pointer (some ⟨b6, 0, none⟩)], .float .f64 sa, .float .f64 sl, .float .f64 cl] 31)).alloc (.cells #[.float .f64 0, .float .f64 0, .float .f64 0, .bool false] 47)) W := fun W hW => by
    refine ⟨hW.cell (by omega) (by simp [go_sem]), hW.cell (by omega) (by simp [go_sem]), hW.cell (by omega) (by simp [go_sem]), hW.cell (by omega) (by simp [go_sem]), hW.cell (by omega) (by simp [go_sem]), hW.cell (by omega) (cell_al (cell_al c5 _) _), hW.cell (by omega) (cell_al (cell_al c6 _) _), hW.cell (by omega) (cell_al (cell_al g1 _) _), hW⟩
  have hst : Hid (Wld (w.heap.size + 2) ((w.alloc (.cells #[.nilFunc, .func (.func 17) #[] #[.pointer (some ⟨b5, 0, none⟩), .pointer (some ⟨b6, 0, none⟩)], .float .f64 sa, .float .f64 sl, .float .f64 cl] 31)).alloc (.cells #[.float .f64 0, .float .f64 0, .float .f64 0, .bool false] 47)) ((w.alloc (.cells #[.nilFunc, .func (.func 17) #[] #[.pointer (some ⟨b5, 0, none⟩), .pointer (some ⟨b6, 0, none⟩)], .float .f64 sa, .float .f64 sl, .float .f64 cl] 31)).alloc (.cells #[.float .f64 0, .float .f64 0, .float .f64 0, .bool false] 47))) := ⟨Below.refl _ _, by simp⟩
  have hdone : ∀ W, Wld (w.heap.size + 2) ((w.alloc (.cells #[.nilFunc, .func (.func 17) #[] #[.pointer (some ⟨b5, 0, none⟩), .pointer (some ⟨b6, 0, none⟩)], .float .f64 sa, .float .f64 sl, .float .f64 cl] 31)).alloc (.cells #[.float .f64 0, .float .f64 0, .float .f64 0, .bool false] 47)) W → Below w.heap.size w W := fun W h => (((Below.refl w.heap.size w).alloc (Nat.le_refl _) _).alloc (by simp) _).trans (h.below.mono (by omega))
  go_enter Tryf.func21, Tryf.ntmps21
  go_wp2_with fail
  go_loopw [2, 10, 12] (fun vt _ vi wr => ∃ (i t : Nat), vt = .float .f64 t ∧ vi = .int .i64 i ∧ ((i = 0 ∧ t = t0) ∨ (i = 1 ∧ ∃ hh, CulmOK η k t hh)) ∧ Wld (w.heap.size + 2) ((w.alloc (.cells #[.nilFunc, .func (.func 17) #[] #[.pointer (some ⟨b5, 0, none⟩), .pointer (some ⟨b6, 0, none⟩)], .float .f64 sa, .float .f64 sl, .float .f64 cl] 31)).alloc (.cells #[.float .f64 0, .float .f64 0, .float .f64 0, .bool false] 47)) wr) (fun _ _ i _ => 20 - (intOf i).toNat)
  case atStart => exact ⟨0, t0, rfl, rfl, Or.inl ⟨rfl, rfl⟩, hst.out⟩
  case round =>
    rename World => wA
    obtain ⟨i, t, rfl, rfl, hinv, hwA⟩ := hrel
    obtain ⟨k0, k1, k2, k3, k4, k5, k6, k7, _⟩ := held wA hwA
    rcases hinv with ⟨rfl, rfl⟩ | ⟨rfl, hh, hok⟩
    · obtain ⟨m, r, x, qx, e1, e2, e3, e4, e5, e6⟩ := F0
      clear F1
      have f1 := runSub e3
      have cat : ∀ W, W.cell? ⟨b5, 0, none⟩ = some (.float .f64 dec) → W.cell? ⟨b6, 0, none⟩ = some (.float .f64 h0) → Calls Tryf.prog 19 #[dayV b5 b6 sa sl cl, .float .f64 t] W fun e w' => e = .returned (.agg #[.float .f64 t, .float .f64 dec, .float .f64 r]) ∧ Below W.heap.size W w' := fun W c5 c6 => at_any t dec h0 m r b5 b6 sa sl cl e1 e2 W c5 c6
      have csg := signed_any x qx e4 e5
      have ffl := run_field2 t dec r
      clear e1 e2 e3
      go_upto_region 7 with fail
      go_cut [10] from 14 to 22 (fun v wd => ∃ r1 cc, v = .float .f64 cc ∧ Ieee.double.div r1 4618779624111797601 = some cc ∧ Sgd qx r1 ∧ Wld (w.heap.size + 2) ((w.alloc (.cells #[.nilFunc, .func (.func 17) #[] #[.pointer (some ⟨b5, 0, none⟩), .pointer (some ⟨b6, 0, none⟩)], .float .f64 sa, .float .f64 sl, .float .f64 cl] 31)).alloc (.cells #[.float .f64 0, .float .f64 0, .float .f64 0, .bool false] 47)) wd)
      case first =>
        have fdiv : ∀ r1, Sgd qx r1 → ∃ cc, Ieee.double.div r1 4618779624111797601 = some cc := fun r1 h => by
          obtain ⟨cc, _, _, _, h1, _⟩ := e6 r1 h
          exact ⟨cc, h1⟩
        go_region_held3 (fun W => W.cell? ⟨w.heap.size, 0, none⟩ = some .nilFunc ∧ W.cell? ⟨w.heap.size, 1, none⟩ = some (.func (.func 17) #[] #[.pointer (some ⟨b5, 0, none⟩), .pointer (some ⟨b6, 0, none⟩)]) ∧ W.cell? ⟨w.heap.size, 2, none⟩ = some (.float .f64 sa) ∧ W.cell? ⟨w.heap.size, 3, none⟩ = some (.float .f64 sl) ∧ W.cell? ⟨w.heap.size, 4, none⟩ = some (.float .f64 cl) ∧ W.cell? ⟨b5, 0, none⟩ = some (.float .f64 dec) ∧ W.cell? ⟨b6, 0, none⟩ = some (.float .f64 h0) ∧ W.cell? ⟨1, 0, none⟩ = some (.float .f64 4618779624111797601) ∧ Wld (w.heap.size + 2) ((w.alloc (.cells #[.nilFunc, .func (.func 17) #[] #[.pointer (some ⟨b5, 0, none⟩), .pointer (some ⟨b6, 0, none⟩)], .float .f64 sa, .float .f64 sl, .float .f64 cl] 31)).alloc (.cells #[.float .f64 0, .float .f64 0, .float .f64 0, .bool false] 47)) W)
          (first
            | (refine held _ ?_; go_split_ands; (repeat (first | with_reducible assumption | with_reducible refine Wld.drew ?_)) <;> fail))
          (first
            | (go_at_call 19; go_split_ands; with_reducible refine Calls.mono (cat _ ?_ ?_) ?_; assumption; assumption; rintro e w' ⟨rfl, hbW⟩; have hWw := Wld.call ‹Wld (w.heap.size + 2) _ _› hbW)
            | (go_at_call 23; refine (csg _).mono ?_; rintro e w'' ⟨⟨r1, q, mm, rfl, v1, v2, v3⟩, hw⟩; rw [hw]; clear hw; obtain ⟨cc, hcc⟩ := fdiv r1 ⟨q, mm, v1, v2, v3⟩; have fcc := runDiv hcc; have hS1 : Sgd qx r1 := ⟨q, mm, v1, v2, v3⟩))
        go_wp2_with fail
        go_meet
        case rel => (go_split_ands; exact ⟨_, _, rfl, hcc, hS1, by with_reducible assumption⟩)
      case rest =>
        obtain ⟨r1, cc, rfl, hcc, hS1, hwd⟩ := hcut
        obtain ⟨cc', t2, m2, r2, a1, a2, a3, a4, a5, a6, a7, a8⟩ := e6 r1 hS1
        obtain rfl : cc = cc' := by rw [hcc] at a1; exact Option.some.inj a1
        have f3 := runAdd a3
        have cab := abs_any cc a2
        obtain ⟨k0, k1, k2, k3, k4, k5, k6, k7, _⟩ := held wc hwd
        have cat2 := at_any t2 dec h0 m2 r2 b5 b6 sa sl cl a4 a5 wc k5 k6
        have hl : w.heap.size + 1 < wc.heap.size := by have := hwd.size; omega
        have r0 := hwd.cell (b := w.heap.size + 1) (o := 0) (v := .float .f64 0) (by omega) (by simp)
        have r1' := hwd.cell (b := w.heap.size + 1) (o := 1) (v := .float .f64 0) (by omega) (by simp)
        have r2' := hwd.cell (b := w.heap.size + 1) (o := 2) (v := .float .f64 0) (by omega) (by simp)
        have r3 := hwd.cell (b := w.heap.size + 1) (o := 3) (v := .bool false) (by omega) (by simp)
        have fz : ∀ o, wc.frozen? ⟨w.heap.size + 1, o, none⟩ = false := fun o => by rw [hwd.below.frozen (by simp)]; simp
        rcases a7 with a7 | a7
        · clear a1 a3 a4 a5 hcc e6
          go_wp2_with (first | (go_at_call 22; refine (cab _).mono ?_; rintro e w'' ⟨rfl, hw⟩; rw [hw]; clear hw) | (go_at_call 19; refine cat2.mono ?_; rintro e w' ⟨rfl, hbW⟩; have y0 := cell_in hbW r0; have y1 := cell_in hbW r1'; have y2 := cell_in hbW r2'; have y3 := cell_in hbW r3; have z0 := (hbW.frozen (p := ⟨w.heap.size + 1, 0, none⟩) hl).trans (fz 0); have z1 := (hbW.frozen (p := ⟨w.heap.size + 1, 1, none⟩) hl).trans (fz 1); have z2 := (hbW.frozen (p := ⟨w.heap.size + 1, 2, none⟩) hl).trans (fz 2); have z3 := (hbW.frozen (p := ⟨w.heap.size + 1, 3, none⟩) hl).trans (fz 3); have hWw := Wld.call hwd hbW))
          have hb0 := hdone _ hWw
          obtain ⟨WF, hWF⟩ : ∃ X, X = ((((w'.setCell ⟨w.heap.size + 1, 0, none⟩ (.float .f64 t2)).setCell ⟨w.heap.size + 1, 1, none⟩ (.float .f64 dec)).setCell ⟨w.heap.size + 1, 2, none⟩ (.float .f64 r2)).setCell ⟨w.heap.size + 1, 3, none⟩ (.bool false)) := ⟨_, rfl⟩
          have p0 : WF.cell? ⟨w.heap.size + 1, 0, none⟩ = some (.float .f64 t2) := by rw [hWF]; exact cso (by omega) (cso (by omega) (cso (by omega) (World.cell?_setCell_same _ _ _ y0)))
          have p1 : WF.cell? ⟨w.heap.size + 1, 1, none⟩ = some (.float .f64 dec) := by rw [hWF]; exact cso (by omega) (cso (by omega) (World.cell?_setCell_same _ _ _ (cso (by omega) y1)))
          have p2 : WF.cell? ⟨w.heap.size + 1, 2, none⟩ = some (.float .f64 r2) := by rw [hWF]; exact cso (by omega) (World.cell?_setCell_same _ _ _ (cso (by omega) (cso (by omega) y2)))
          have p3 : WF.cell? ⟨w.heap.size + 1, 3, none⟩ = some (.bool false) := by rw [hWF]; exact World.cell?_setCell_same _ _ _ (cso (by omega) (cso (by omega) (cso (by omega) y3)))
          have hbF : Below w.heap.size w WF := by rw [hWF]; exact (((hb0.setCell (by simp) _).setCell (by simp) _).setCell (by simp) _).setCell (by simp) _
          rw [← hWF]
          exact bodyPost_ret (v := .tuple #[culmV t2 dec r2 false, .nilIface]) (by simp [results, Tryf.results21, go_sem, p0, p1, p2, p3]) rfl ⟨⟨t2, r2, rfl, a6⟩, hbF⟩
        · clear a1 a3 a4 a5 hcc e6
          go_wp2_with (go_at_call 22; refine (cab _).mono ?_; rintro e w'' ⟨rfl, hw⟩; rw [hw]; clear hw)
          go_roundw
          case rel => exact ⟨1, t2, rfl, by go_num, Or.inr ⟨rfl, r2, a6⟩, hwd⟩
          case measure => simp [intOf]
    · obtain ⟨m, r, x, qx, e1, e2, e3, e4, e5, e6⟩ := F1 t hh hok
      clear F0
      have f1 := runSub e3
      have cat : ∀ W, W.cell? ⟨b5, 0, none⟩ = some (.float .f64 dec) → W.cell? ⟨b6, 0, none⟩ = some (.float .f64 h0) → Calls Tryf.prog 19 #[dayV b5 b6 sa sl cl, .float .f64 t] W fun e w' => e = .returned (.agg #[.float .f64 t, .float .f64 dec, .float .f64 r]) ∧ Below W.heap.size W w' := fun W c5 c6 => at_any t dec h0 m r b5 b6 sa sl cl e1 e2 W c5 c6
      have csg := signed_any x qx e4 e5
      have ffl := run_field2 t dec r
      clear e1 e2 e3
      go_upto_region 7 with fail
      go_cut [10] from 14 to 22 (fun v wd => ∃ r1 cc, v = .float .f64 cc ∧ Ieee.double.div r1 4618779624111797601 = some cc ∧ Sgd qx r1 ∧ Wld (w.heap.size + 2) ((w.alloc (.cells #[.nilFunc, .func (.func 17) #[] #[.pointer (some ⟨b5, 0, none⟩), .pointer (some ⟨b6, 0, none⟩)], .float .f64 sa, .float .f64 sl, .float .f64 cl] 31)).alloc (.cells #[.float .f64 0, .float .f64 0, .float .f64 0, .bool false] 47)) wd)
      case first =>
        have fdiv : ∀ r1, Sgd qx r1 → ∃ cc, Ieee.double.div r1 4618779624111797601 = some cc := fun r1 h => by
          obtain ⟨cc, _, _, _, h1, _⟩ := e6 r1 h
          exact ⟨cc, h1⟩
        go_region_held3 (fun W => W.cell? ⟨w.heap.size, 0, none⟩ = some .nilFunc ∧ W.cell? ⟨w.heap.size, 1, none⟩ = some (.func (.func 17) #[] #[.pointer (some ⟨b5, 0, none⟩), .pointer (some ⟨b6, 0, none⟩)]) ∧ W.cell? ⟨w.heap.size, 2, none⟩ = some (.float .f64 sa) ∧ W.cell? ⟨w.heap.size, 3, none⟩ = some (.float .f64 sl) ∧ W.cell? ⟨w.heap.size, 4, none⟩ = some (.float .f64 cl) ∧ W.cell? ⟨b5, 0, none⟩ = some (.float .f64 dec) ∧ W.cell? ⟨b6, 0, none⟩ = some (.float .f64 h0) ∧ W.cell? ⟨1, 0, none⟩ = some (.float .f64 4618779624111797601) ∧ Wld (w.heap.size + 2) ((w.alloc (.cells #[.nilFunc, .func (.func 17) #[] #[.pointer (some ⟨b5, 0, none⟩), .pointer (some ⟨b6, 0, none⟩)], .float .f64 sa, .float .f64 sl, .float .f64 cl] 31)).alloc (.cells #[.float .f64 0, .float .f64 0, .float .f64 0, .bool false] 47)) W)
          (first
            | (refine held _ ?_; go_split_ands; (repeat (first | with_reducible assumption | with_reducible refine Wld.drew ?_)) <;> fail))
          (first
            | (go_at_call 19; go_split_ands; with_reducible refine Calls.mono (cat _ ?_ ?_) ?_; assumption; assumption; rintro e w' ⟨rfl, hbW⟩; have hWw := Wld.call ‹Wld (w.heap.size + 2) _ _› hbW)
            | (go_at_call 23; refine (csg _).mono ?_; rintro e w'' ⟨⟨r1, q, mm, rfl, v1, v2, v3⟩, hw⟩; rw [hw]; clear hw; obtain ⟨cc, hcc⟩ := fdiv r1 ⟨q, mm, v1, v2, v3⟩; have fcc := runDiv hcc; have hS1 : Sgd qx r1 := ⟨q, mm, v1, v2, v3⟩))
        go_wp2_with fail
        go_meet
        case rel => (go_split_ands; exact ⟨_, _, rfl, hcc, hS1, by with_reducible assumption⟩)
      case rest =>
        obtain ⟨r1, cc, rfl, hcc, hS1, hwd⟩ := hcut
        obtain ⟨cc', t2, m2, r2, a1, a2, a3, a4, a5, a6, a7, a8⟩ := e6 r1 hS1
        obtain rfl : cc = cc' := by rw [hcc] at a1; exact Option.some.inj a1
        have f3 := runAdd a3
        have cab := abs_any cc a2
        obtain ⟨k0, k1, k2, k3, k4, k5, k6, k7, _⟩ := held wc hwd
        have cat2 := at_any t2 dec h0 m2 r2 b5 b6 sa sl cl a4 a5 wc k5 k6
        have hl : w.heap.size + 1 < wc.heap.size := by have := hwd.size; omega
        have r0 := hwd.cell (b := w.heap.size + 1) (o := 0) (v := .float .f64 0) (by omega) (by simp)
        have r1' := hwd.cell (b := w.heap.size + 1) (o := 1) (v := .float .f64 0) (by omega) (by simp)
        have r2' := hwd.cell (b := w.heap.size + 1) (o := 2) (v := .float .f64 0) (by omega) (by simp)
        have r3 := hwd.cell (b := w.heap.size + 1) (o := 3) (v := .bool false) (by omega) (by simp)
        have fz : ∀ o, wc.frozen? ⟨w.heap.size + 1, o, none⟩ = false := fun o => by rw [hwd.below.frozen (by simp)]; simp
        have a7 := a8 trivial
        · clear a1 a3 a4 a5 hcc e6
          go_wp2_with (first | (go_at_call 22; refine (cab _).mono ?_; rintro e w'' ⟨rfl, hw⟩; rw [hw]; clear hw) | (go_at_call 19; refine cat2.mono ?_; rintro e w' ⟨rfl, hbW⟩; have y0 := cell_in hbW r0; have y1 := cell_in hbW r1'; have y2 := cell_in hbW r2'; have y3 := cell_in hbW r3; have z0 := (hbW.frozen (p := ⟨w.heap.size + 1, 0, none⟩) hl).trans (fz 0); have z1 := (hbW.frozen (p := ⟨w.heap.size + 1, 1, none⟩) hl).trans (fz 1); have z2 := (hbW.frozen (p := ⟨w.heap.size + 1, 2, none⟩) hl).trans (fz 2); have z3 := (hbW.frozen (p := ⟨w.heap.size + 1, 3, none⟩) hl).trans (fz 3); have hWw := Wld.call hwd hbW))
          have hb0 := hdone _ hWw
          obtain ⟨WF, hWF⟩ : ∃ X, X = ((((w'.setCell ⟨w.heap.size + 1, 0, none⟩ (.float .f64 t2)).setCell ⟨w.heap.size + 1, 1, none⟩ (.float .f64 dec)).setCell ⟨w.heap.size + 1, 2, none⟩ (.float .f64 r2)).setCell ⟨w.heap.size + 1, 3, none⟩ (.bool false)) := ⟨_, rfl⟩
          have p0 : WF.cell? ⟨w.heap.size + 1, 0, none⟩ = some (.float .f64 t2) := by rw [hWF]; exact cso (by omega) (cso (by omega) (cso (by omega) (World.cell?_setCell_same _ _ _ y0)))
          have p1 : WF.cell? ⟨w.heap.size + 1, 1, none⟩ = some (.float .f64 dec) := by rw [hWF]; exact cso (by omega) (cso (by omega) (World.cell?_setCell_same _ _ _ (cso (by omega) y1)))
          have p2 : WF.cell? ⟨w.heap.size + 1, 2, none⟩ = some (.float .f64 r2) := by rw [hWF]; exact cso (by omega) (World.cell?_setCell_same _ _ _ (cso (by omega) (cso (by omega) y2)))
          have p3 : WF.cell? ⟨w.heap.size + 1, 3, none⟩ = some (.bool false) := by rw [hWF]; exact World.cell?_setCell_same _ _ _ (cso (by omega) (cso (by omega) (cso (by omega) y3)))
          have hbF : Below w.heap.size w WF := by rw [hWF]; exact (((hb0.setCell (by simp) _).setCell (by simp) _).setCell (by simp) _).setCell (by simp) _
          rw [← hWF]
          exact bodyPost_ret (v := .tuple #[culmV t2 dec r2 false, .nilIface]) (by simp [results, Tryf.results21, go_sem, p0, p1, p2, p3]) rfl ⟨⟨t2, r2, rfl, a6⟩, hbF⟩
end Go.Proofs.Qxb6609382aFmt.W
