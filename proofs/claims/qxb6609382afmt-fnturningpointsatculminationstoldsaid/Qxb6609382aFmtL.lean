import Derived.Test.Qxb6609382aFmtK
namespace Go.Proofs.Qxb6609382aFmt.W
open Go.RowKit Go.Proofs.Qxb6609382aFmt.Fl
attribute [local go_sem] run_store_float

theorem cat3 {w : World} {a b c v : Value} {t : TypeId} {n i : Nat} (hn : n = w.heap.size) (hi : #[a, b, c][i]? = some v) : (w.alloc (.cells #[a, b, c] t)).cell? ⟨n, i, none⟩ = some v := by
  subst hn; rw [World.cell?_alloc_new]; exact hi
theorem cap {w : World} {o : Obj} {n i : Nat} {v : Value} (hn : n < w.heap.size) (hc : w.cell? ⟨n, i, none⟩ = some v) : (w.alloc o).cell? ⟨n, i, none⟩ = some v := by
  rw [World.cell?_alloc_lt]
  · exact hc
  · exact hn
theorem cso {w : World} {b o b' o' : Nat} {u v : Value} (h : b ≠ b' ∨ o ≠ o') (hc : w.cell? ⟨b', o', none⟩ = some v) : (w.setCell ⟨b, o, none⟩ u).cell? ⟨b', o', none⟩ = some v := by
  rw [World.cell?_setCell_other]
  · exact hc
  · intro e; injection e with e1 e2; omega
theorem css {w : World} {b o : Nat} {v : Value} (hc : w.cell? ⟨b, o, none⟩ = some (.float .f64 0)) : (w.setCell ⟨b, o, none⟩ v).cell? ⟨b, o, none⟩ = some v := World.cell?_setCell_same _ _ _ hc
/-- A sample's three cells. -/
def Row3 (w : World) (p a b c : Nat) : Prop := w.cell? ⟨p, 0, none⟩ = some (.float .f64 a) ∧ w.cell? ⟨p, 1, none⟩ = some (.float .f64 b) ∧ w.cell? ⟨p, 2, none⟩ = some (.float .f64 c)

/-- A world that has grown out of W0, whose blocks below C stand as they stood. -/
structure Wld (C : Nat) (W0 W : World) : Prop where
  below : Below C W0 W
  size : C ≤ W.heap.size
theorem Wld.call {C : Nat} {W0 W W' : World} (h : Wld C W0 W) (hb : Below W.heap.size W W') : Wld C W0 W' := ⟨h.below.trans (hb.mono h.size), Nat.le_trans h.size hb.size⟩
theorem Wld.drew {C : Nat} {W0 W : World} (h : Wld C W0 W) : Wld C W0 W.drew := ⟨h.below.drew, h.size⟩
theorem Wld.drewN {C : Nat} {W0 W : World} (h : Wld C W0 W) (n : Nat) : Wld C W0 (W.drewN n) := ⟨below_drewN h.below n, h.size⟩
theorem Wld.alloc {C : Nat} {W0 W : World} (h : Wld C W0 W) (x : Obj) : Wld C W0 (W.alloc x) := ⟨h.below.alloc h.size x, by simp; have := h.size; omega⟩
theorem Wld.set {C : Nat} {W0 W : World} (h : Wld C W0 W) {p : Addr} (hp : C ≤ p.block) (u : Value) : Wld C W0 (W.setCell p u) := ⟨h.below.setCell hp u, by simpa using h.size⟩
theorem Wld.start (W : World) : Wld W.heap.size W W := ⟨Below.refl _ _, Nat.le_refl _⟩
theorem Wld.cell {C : Nat} {W0 W : World} (h : Wld C W0 W) {b o : Nat} {v : Value} (hb : b < C) (hc : W0.cell? ⟨b, o, none⟩ = some v) : W.cell? ⟨b, o, none⟩ = some v := by rw [h.below.cell (by exact hb)]; exact hc
theorem Wld.alloc1 (w : World) (x : Obj) : Wld (w.heap.size + 1) (w.alloc x) (w.alloc x) := ⟨Below.refl _ _, by simp⟩
theorem Wld.done {w W : World} {x : Obj} (h : Wld (w.heap.size + 1) (w.alloc x) W) : Below w.heap.size w W := ((Below.refl w.heap.size w).alloc (Nat.le_refl _) x).trans (h.below.mono (by omega))

/-- A new sample's three cells, at nought. -/
abbrev z3 : Obj := .cells #[.float .f64 0, .float .f64 0, .float .f64 0] 43
structure Z3 (W : World) (b : Nat) : Prop where
  c0 : W.cell? ⟨b, 0, none⟩ = some (.float .f64 0)
  c1 : W.cell? ⟨b, 1, none⟩ = some (.float .f64 0)
  c2 : W.cell? ⟨b, 2, none⟩ = some (.float .f64 0)
  f0 : W.frozen? ⟨b, 0, none⟩ = false
  f1 : W.frozen? ⟨b, 1, none⟩ = false
  f2 : W.frozen? ⟨b, 2, none⟩ = false
  lt : b < W.heap.size
theorem Z3.call {W W' : World} {b : Nat} (h : Z3 W b) (hb : Below W.heap.size W W') : Z3 W' b := by
  obtain ⟨c0, c1, c2, f0, f1, f2, lt⟩ := h
  exact ⟨cell_in hb c0, cell_in hb c1, cell_in hb c2, (hb.frozen (p := ⟨b, 0, none⟩) lt).trans f0, (hb.frozen (p := ⟨b, 1, none⟩) lt).trans f1, (hb.frozen (p := ⟨b, 2, none⟩) lt).trans f2, Nat.lt_of_lt_of_le lt hb.size⟩
theorem Z3.al {W : World} {b : Nat} (h : Z3 W b) (x : Obj) : Z3 (W.alloc x) b := h.call ((Below.refl _ W).alloc (Nat.le_refl _) x)
theorem Z3.drew {W : World} {b : Nat} (h : Z3 W b) : Z3 W.drew b := h.call ((Below.refl _ W).drew)
theorem Z3.new {W : World} {b : Nat} (h : b = W.heap.size) : Z3 (W.alloc z3) b := by
  subst h; exact ⟨by simp, by simp, by simp, by simp, by simp, by simp, by simp⟩

set_option maxHeartbeats 12000000 in
theorem rate_walk (t dec h0 b5 b6 sa sl cl tb ta mb ma hb ha Ea Eb D R dh cd cb ca y1 y2 y3 y4 x1 : Nat) (Sg Fin : Nat → Prop)
    (e1 : Ieee.double.sub t 4548168583682844020 = some tb) (e2 : Ieee.double.add t 4548168583682844020 = some ta)
    (e3 : Ieee.double.mul 4618779624111797601 tb = some mb) (e4 : Ieee.double.add h0 mb = some hb)
    (e5 : Ieee.double.mul 4618779624111797601 ta = some ma) (e6 : Ieee.double.add h0 ma = some ha)
    (hXa : ∀ w, Glob w → Calls Tryf.prog 32 #[dayV b5 b6 sa sl cl, sampV ta dec ha] w fun e w' => e = .returned (.float .f64 Ea) ∧ Below w.heap.size w w')
    (hXb : ∀ w, Glob w → Calls Tryf.prog 32 #[dayV b5 b6 sa sl cl, sampV tb dec hb] w fun e w' => e = .returned (.float .f64 Eb) ∧ Below w.heap.size w w')
    (e7 : Ieee.double.sub Ea Eb = some D) (e8 : Ieee.double.div D 4552672183310214516 = some R) (e9 : Ieee.double.sub ha hb = some dh)
    (hSg : ∀ w, Calls Tryf.prog 23 #[.float .f64 dh] w fun e w' => (∃ r, e = .returned (.float .f64 r) ∧ Sg r) ∧ w' = w)
    (hCd : ∀ w, Glob w → Calls Tryf.prog 33 #[.float .f64 dec] w fun e w' => e = .returned (.float .f64 cd) ∧ w' = w)
    (hCb : ∀ w, Glob w → Calls Tryf.prog 33 #[.float .f64 hb] w fun e w' => e = .returned (.float .f64 cb) ∧ w' = w)
    (hCa : ∀ w, Glob w → Calls Tryf.prog 33 #[.float .f64 ha] w fun e w' => e = .returned (.float .f64 ca) ∧ w' = w)
    (g1 : Ieee.double.mul cd cb = some y1) (g2 : Ieee.double.mul cd ca = some y2) (g3 : Ieee.double.add y1 y2 = some y3) (g4 : Ieee.double.div y3 4611686018427387904 = some y4) (g5 : Ieee.double.mul (Op.negFloat .f64 cl) y4 = some x1)
    (hFin : ∀ r, Sg r → ∃ hr x2 x3, Ieee.double.div r 4552672183310214516 = some hr ∧ Ieee.double.mul x1 hr = some x2 ∧ Ieee.double.mul x2 hr = some x3 ∧ Fin x3) (w : World) (hg : Glob w)
    (c5 : w.cell? ⟨b5, 0, none⟩ = some (.float .f64 dec)) (c6 : w.cell? ⟨b6, 0, none⟩ = some (.float .f64 h0)) :
    Calls Tryf.prog 25 #[dayV b5 b6 sa sl cl, .float .f64 t] w fun e w' => (∃ x3, e = .returned (.tuple #[.float .f64 R, .float .f64 x3]) ∧ Fin x3) ∧ Below w.heap.size w w' := by
  have f1 := runSub e1
  have f2 := runAdd e2
  have l5 := lt_of_cell c5
  have l6 := lt_of_cell c6
  go_enter Tryf.func25, Tryf.ntmps25
  go_upto_region 1 with fail
  have ca' := fun w c5 c6 => at_any tb dec h0 mb hb b5 b6 sa sl cl e3 e4 w c5 c6
  have cb' := fun w c5 c6 => at_any ta dec h0 ma ha b5 b6 sa sl cl e5 e6 w c5 c6
  clear e1 e2 e3 e4 e5 e6
  have held : ∀ W, Wld (w.heap.size + 1) (w.alloc (.cells #[.nilFunc, .func (.func 17) #[] #[.pointer (some ⟨b5, 0, none⟩), .pointer (some ⟨b6, 0, none⟩)], .float .f64 sa, .float .f64 sl, .float .f64 cl] 31)) W →
      W.cell? ⟨w.heap.size, 0, none⟩ = some .nilFunc ∧ W.cell? ⟨w.heap.size, 1, none⟩ = some (.func (.func 17) #[] #[.pointer (some ⟨b5, 0, none⟩), .pointer (some ⟨b6, 0, none⟩)]) ∧ W.cell? ⟨w.heap.size, 2, none⟩ = some (.float .f64 sa) ∧ W.cell? ⟨w.heap.size, 3, none⟩ = some (.float .f64 sl) ∧ W.cell? ⟨w.heap.size, 4, none⟩ = some (.float .f64 cl) ∧ W.cell? ⟨b5, 0, none⟩ = some (.float .f64 dec) ∧ W.cell? ⟨b6, 0, none⟩ = some (.float .f64 h0) ∧
        Wld (w.heap.size + 1) (w.alloc (.cells #[.nilFunc, .func (.func 17) #[] #[.pointer (some ⟨b5, 0, none⟩), .pointer (some ⟨b6, 0, none⟩)], .float .f64 sa, .float .f64 sl, .float .f64 cl] 31)) W := fun W hW => by
    refine ⟨hW.cell (by omega) (by simp [go_sem]), hW.cell (by omega) (by simp [go_sem]), hW.cell (by omega) (by simp [go_sem]), hW.cell (by omega) (by simp [go_sem]), hW.cell (by omega) (by simp [go_sem]), hW.cell (by omega) (cell_al c5 _), hW.cell (by omega) (cell_al c6 _), hW⟩
  have hst := (Wld.alloc1 w (.cells #[.nilFunc, .func (.func 17) #[] #[.pointer (some ⟨b5, 0, none⟩), .pointer (some ⟨b6, 0, none⟩)], .float .f64 sa, .float .f64 sl, .float .f64 cl] 31))
  go_cut [6, 7] from 10 to 17 (fun vp vq wc => ∃ p q : Nat, vp = .pointer (some ⟨p, 0, none⟩) ∧ vq = .pointer (some ⟨q, 0, none⟩) ∧ Row3 wc p tb dec hb ∧ Row3 wc q ta dec ha ∧ w.heap.size < p ∧ w.heap.size < q ∧ Wld (w.heap.size + 1) (w.alloc (.cells #[.nilFunc, .func (.func 17) #[] #[.pointer (some ⟨b5, 0, none⟩), .pointer (some ⟨b6, 0, none⟩)], .float .f64 sa, .float .f64 sl, .float .f64 cl] 31)) wc)
  case first =>
    go_region_held3 (fun W => W.cell? ⟨w.heap.size, 0, none⟩ = some .nilFunc ∧ W.cell? ⟨w.heap.size, 1, none⟩ = some (.func (.func 17) #[] #[.pointer (some ⟨b5, 0, none⟩), .pointer (some ⟨b6, 0, none⟩)]) ∧ W.cell? ⟨w.heap.size, 2, none⟩ = some (.float .f64 sa) ∧ W.cell? ⟨w.heap.size, 3, none⟩ = some (.float .f64 sl) ∧ W.cell? ⟨w.heap.size, 4, none⟩ = some (.float .f64 cl) ∧ W.cell? ⟨b5, 0, none⟩ = some (.float .f64 dec) ∧ W.cell? ⟨b6, 0, none⟩ = some (.float .f64 h0) ∧
        Wld (w.heap.size + 1) (w.alloc (.cells #[.nilFunc, .func (.func 17) #[] #[.pointer (some ⟨b5, 0, none⟩), .pointer (some ⟨b6, 0, none⟩)], .float .f64 sa, .float .f64 sl, .float .f64 cl] 31)) W)
      (first
        | (refine held _ ?_; go_split_ands; (repeat (first | with_reducible assumption | with_reducible refine Wld.alloc ?_ _ | with_reducible exact hst | with_reducible refine Wld.drew ?_ | (with_reducible refine Wld.set ?_ (by dsimp only; omega) _)))) <;> fail)
      (first
        | (go_at_call 19; go_split_ands; with_reducible refine Calls.mono (ca' _ ?_ ?_) ?_; assumption; assumption; rintro e w' ⟨rfl, hbW⟩; have hWw := Wld.call ‹Wld (w.heap.size + 1) _ _› hbW; have hsz := hWw.size; (first | (have hz1 : Z3 _ (w.heap.size + 1) := Z3.call (Z3.drew (Z3.al (Z3.new (by simp)) _)) hbW; have hz2 : Z3 _ (w.heap.size + 1 + 1) := Z3.call (Z3.drew (Z3.new (by simp))) hbW; have hz1a := hz1.c0; have hz1b := hz1.c1; have hz1c := hz1.c2; have hz1d := hz1.f0; have hz1e := hz1.f1; have hz1f := hz1.f2; have hz1g := hz1.lt; have hz2a := hz2.c0; have hz2b := hz2.c1; have hz2c := hz2.c2; have hz2d := hz2.f0; have hz2e := hz2.f1; have hz2f := hz2.f2; have hz2g := hz2.lt) | (have hz1 : Z3 _ (w.heap.size + 1) := Z3.call (Z3.drew (Z3.new (by simp))) hbW; have hz1a := hz1.c0; have hz1b := hz1.c1; have hz1c := hz1.c2; have hz1d := hz1.f0; have hz1e := hz1.f1; have hz1f := hz1.f2; have hz1g := hz1.lt) | (skip)))
        | (go_at_call 19; go_split_ands; with_reducible refine Calls.mono (cb' _ ?_ ?_) ?_; assumption; assumption; rintro e w' ⟨rfl, hbW⟩; have hWw := Wld.call ‹Wld (w.heap.size + 1) _ _› hbW; have hsz := hWw.size; (first | (have hz3 := Z3.call (Z3.al (Z3.new (Eq.refl _)) z3) hbW; have hz4 := Z3.call (Z3.new (Eq.refl _)) hbW; simp only [World.size_alloc] at hz4; have hz3a := hz3.c0; have hz3b := hz3.c1; have hz3c := hz3.c2; have hz3d := hz3.f0; have hz3e := hz3.f1; have hz3f := hz3.f2; have hz3g := hz3.lt; have hz4a := hz4.c0; have hz4b := hz4.c1; have hz4c := hz4.c2; have hz4d := hz4.f0; have hz4e := hz4.f1; have hz4f := hz4.f2; have hz4g := hz4.lt) | (have hz3 := Z3.call (Z3.new (Eq.refl _)) hbW; have hz3a := hz3.c0; have hz3b := hz3.c1; have hz3c := hz3.c2; have hz3d := hz3.f0; have hz3e := hz3.f1; have hz3f := hz3.f2; have hz3g := hz3.lt; (first | (have hz4 := Z3.call (Z3.al hz1 z3) hbW; have hz4a := hz4.c0; have hz4b := hz4.c1; have hz4c := hz4.c2; have hz4d := hz4.f0; have hz4e := hz4.f1; have hz4f := hz4.f2; have hz4g := hz4.lt) | skip)) | (have hz3 := Z3.call hz1 hbW; have hz3a := hz3.c0; have hz3b := hz3.c1; have hz3c := hz3.c2; have hz3d := hz3.f0; have hz3e := hz3.f1; have hz3f := hz3.f2; have hz3g := hz3.lt; (first | (have hz4 := Z3.call hz2 hbW; have hz4a := hz4.c0; have hz4b := hz4.c1; have hz4c := hz4.c2; have hz4d := hz4.f0; have hz4e := hz4.f1; have hz4f := hz4.f2; have hz4g := hz4.lt) | skip)) | (skip))))
    all_goals (go_wp2_with fail; go_meet; case rel => (go_split_ands; refine ⟨_, _, rfl, rfl, ⟨?_, ?_, ?_⟩, ⟨?_, ?_, ?_⟩, ?_, ?_, ?_⟩; all_goals (first | with_reducible assumption | ((repeat (first | with_reducible assumption | ((with_reducible refine cat3 ?_ ?_); (focus (first | omega | ((simp only [World.size_setCell, World.size_alloc]) <;> omega))); rfl) | ((with_reducible refine cap ?_ ?_); (focus (first | omega | ((simp only [World.size_setCell, World.size_alloc]) <;> omega)))) | (with_reducible refine css ?_) | ((with_reducible refine cso ?_ ?_); (focus omega)))); done) | ((repeat (first | with_reducible assumption | with_reducible exact hst | with_reducible refine Wld.drew ?_ | with_reducible refine Wld.alloc ?_ _ | (with_reducible refine Wld.set ?_ (by dsimp only; (first | omega | ((simp only [World.size_setCell, World.size_alloc]) <;> omega))) _))); done) | (first | omega | ((simp only [World.size_setCell, World.size_alloc]) <;> omega)) | (trace_state; fail))))
  case rest =>
    rename World => wq
    clear ca' cb' f1 f2
    obtain ⟨p, q, rfl, rfl, ⟨rp0, rp1, rp2⟩, ⟨rq0, rq1, rq2⟩, hp, hq, hwl⟩ := hcut
    have hgc : Glob wq := hg.below hwl.done
    have hdone := hwl.done
    obtain ⟨k0, k1, k2, k3, k4, _, _, _⟩ := held wq hwl
    clear held hst hwl
    have held : ∀ W, Wld wq.heap.size wq W → W.cell? ⟨w.heap.size, 0, none⟩ = some .nilFunc ∧ W.cell? ⟨w.heap.size, 1, none⟩ = some (.func (.func 17) #[] #[.pointer (some ⟨b5, 0, none⟩), .pointer (some ⟨b6, 0, none⟩)]) ∧ W.cell? ⟨w.heap.size, 2, none⟩ = some (.float .f64 sa) ∧ W.cell? ⟨w.heap.size, 3, none⟩ = some (.float .f64 sl) ∧ W.cell? ⟨w.heap.size, 4, none⟩ = some (.float .f64 cl) ∧ W.cell? ⟨p, 0, none⟩ = some (.float .f64 tb) ∧ W.cell? ⟨p, 1, none⟩ = some (.float .f64 dec) ∧ W.cell? ⟨p, 2, none⟩ = some (.float .f64 hb) ∧ W.cell? ⟨q, 0, none⟩ = some (.float .f64 ta) ∧ W.cell? ⟨q, 1, none⟩ = some (.float .f64 dec) ∧ W.cell? ⟨q, 2, none⟩ = some (.float .f64 ha) ∧ Wld wq.heap.size wq W := fun W hW =>
      ⟨hW.cell (lt_of_cell k0) k0, hW.cell (lt_of_cell k1) k1, hW.cell (lt_of_cell k2) k2, hW.cell (lt_of_cell k3) k3, hW.cell (lt_of_cell k4) k4, hW.cell (lt_of_cell rp0) rp0, hW.cell (lt_of_cell rp1) rp1, hW.cell (lt_of_cell rp2) rp2, hW.cell (lt_of_cell rq0) rq0, hW.cell (lt_of_cell rq1) rq1, hW.cell (lt_of_cell rq2) rq2, hW⟩
    have hst := Wld.start wq
    have f7 := runSub e7
    have f8 := runDiv e8
    clear e7 e8
    go_upto_region 2 with fail
    go_cut [4] from 18 to 25 (fun v wd => v = .float .f64 R ∧ Wld wq.heap.size wq wd)
    case first =>
      go_region_held3 (fun W => W.cell? ⟨w.heap.size, 0, none⟩ = some .nilFunc ∧ W.cell? ⟨w.heap.size, 1, none⟩ = some (.func (.func 17) #[] #[.pointer (some ⟨b5, 0, none⟩), .pointer (some ⟨b6, 0, none⟩)]) ∧ W.cell? ⟨w.heap.size, 2, none⟩ = some (.float .f64 sa) ∧ W.cell? ⟨w.heap.size, 3, none⟩ = some (.float .f64 sl) ∧ W.cell? ⟨w.heap.size, 4, none⟩ = some (.float .f64 cl) ∧ W.cell? ⟨p, 0, none⟩ = some (.float .f64 tb) ∧ W.cell? ⟨p, 1, none⟩ = some (.float .f64 dec) ∧ W.cell? ⟨p, 2, none⟩ = some (.float .f64 hb) ∧ W.cell? ⟨q, 0, none⟩ = some (.float .f64 ta) ∧ W.cell? ⟨q, 1, none⟩ = some (.float .f64 dec) ∧ W.cell? ⟨q, 2, none⟩ = some (.float .f64 ha) ∧ Wld wq.heap.size wq W)
        (first
          | (refine held _ ?_; go_split_ands; (repeat (first | with_reducible assumption | with_reducible exact hst | with_reducible refine Wld.drew ?_)) <;> fail))
        (first
          | (go_at_call 32; go_split_ands; with_reducible refine Calls.mono (hXa _ (hgc.below (Wld.below ‹Wld _ _ _›))) ?_; rintro e w' ⟨rfl, hbW⟩; have hWw := Wld.call ‹Wld wq.heap.size _ _› hbW)
          | (go_at_call 32; go_split_ands; with_reducible refine Calls.mono (hXb _ (hgc.below (Wld.below ‹Wld _ _ _›))) ?_; rintro e w' ⟨rfl, hbW⟩; have hWw := Wld.call ‹Wld wq.heap.size _ _› hbW))
      go_wp2_with fail
      go_meet
      case rel => (go_split_ands; exact ⟨rfl, by assumption⟩)
    case rest =>
      obtain ⟨rfl, hwd⟩ := hcut
      obtain ⟨j0, j1, j2, j3, j4, u0, u1, u2, v0, v1, v2, _⟩ := held wc hwd
      have hgd : Glob wc := hgc.below hwd.below
      have hdone2 := hdone.trans (hwd.below.mono hdone.size)
      clear held hst k0 k1 k2 k3 k4 rp0 rp1 rp2 rq0 rq1 rq2 f7 f8 hwd
      have f9 := runSub e9
      have n1 := runMul g1
      have n2 := runMul g2
      have n3 := runAdd g3
      have n4 := runDiv g4
      have n5 := runMul g5
      have n6 := runNeg cl
      clear e9 g1 g2 g3 g4 g5
      go_upto_region 4 with (go_at_call 23; refine (hSg _).mono ?_; rintro e w' ⟨⟨r, rfl, hr⟩, rfl⟩; obtain ⟨rr, x2, x3, q1, q2, q3, hf⟩ := hFin r hr; have n7 := runDiv q1; have n8 := runMul q2; have n9 := runMul q3)
      go_quiet (first | (go_at_call 33; refine Calls.quiet_of (quiet0 (hCd _ ?_)); exact hgd.drewN _) | (go_at_call 33; refine Calls.quiet_of (quiet0 (hCb _ ?_)); exact hgd.drewN _) | (go_at_call 33; refine Calls.quiet_of (quiet0 (hCa _ ?_)); exact hgd.drewN _))
      go_wp2_with fail
      go_quiet (fail)
      go_wp2_with fail
      go_ret2
      exact ⟨⟨x3, rfl, hf⟩, below_drewN (below_drewN hdone2 _) _⟩
end Go.Proofs.Qxb6609382aFmt.W
