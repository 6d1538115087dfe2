import Derived.Test.Qxb6609382aFmtI
import Derived.Deep.RegionHeld3
namespace Go.Proofs.Qxb6609382aFmt.W
open Go.RowKit Go.Proofs.Qxb6609382aFmt.Fl

/-- A float stored into a cell. -/
theorem run_store_float (P : Program) (w : World) (a : Addr) (m : Mode) (k : FloatKind) (n : Nat) : (store a (.float k n) m).run P w = stored P w a (.float k n) m := run_store P w a _ m rfl
attribute [local go_sem] run_store_float

theorem lt_of_cell {w : World} {b o : Nat} {v : Value} (h : w.cell? ⟨b, o, none⟩ = some v) : b < w.heap.size := by
  rcases Nat.lt_or_ge b w.heap.size with h' | h'
  · exact h'
  · simp [World.cell?, Array.getElem?_eq_none h'] at h

theorem cell_in {w w' : World} {b o : Nat} {v : Value} (hb : Below w.heap.size w w') (h : w.cell? ⟨b, o, none⟩ = some v) : w'.cell? ⟨b, o, none⟩ = some v := by
  rw [hb.cell (by exact lt_of_cell h)]; exact h
theorem cell_al {w : World} {b o : Nat} {v : Value} (h : w.cell? ⟨b, o, none⟩ = some v) (x : Obj) : (w.alloc x).cell? ⟨b, o, none⟩ = some v :=
  cell_in ((Below.refl _ w).alloc (Nat.le_refl _) x) h

set_option maxHeartbeats 1000000 in
theorem sky_any (t dec h0 m r : Nat) (b5 b6 : Nat) (hm : Ieee.double.mul 4618779624111797601 t = some m) (hr : Ieee.double.add h0 m = some r) (w : World)
    (c5 : w.cell? ⟨b5, 0, none⟩ = some (.float .f64 dec)) (c6 : w.cell? ⟨b6, 0, none⟩ = some (.float .f64 h0)) :
    Calls Tryf.prog 17 #[.float .f64 t, .pointer (some ⟨b5, 0, none⟩), .pointer (some ⟨b6, 0, none⟩)] w fun e w' => e = .returned (.tuple #[.float .f64 dec, .float .f64 r]) ∧ ∃ n, w' = w.drewN n := by
  have f1 := runMul hm
  have f2 := runAdd hr
  go_enter Tryf.func17, Tryf.ntmps17
  go_wp2
  go_quiet (fail)
  go_wp2
  go_ret2
  exact ⟨rfl, nq, rfl⟩

/-- The day's search as a value: nothing under skyOf, the fixed star's sky, the three sines and cosines. -/
abbrev dayV (b5 b6 sa sl cl : Nat) : Value := .agg #[.nilFunc, .func (.func 17) #[] #[.pointer (some ⟨b5, 0, none⟩), .pointer (some ⟨b6, 0, none⟩)], .float .f64 sa, .float .f64 sl, .float .f64 cl]
abbrev sampV (t dec h : Nat) : Value := .agg #[.float .f64 t, .float .f64 dec, .float .f64 h]

set_option maxHeartbeats 1000000 in
theorem at_any (t dec h0 m r : Nat) (b5 b6 sa sl cl : Nat) (hm : Ieee.double.mul 4618779624111797601 t = some m) (hr : Ieee.double.add h0 m = some r) (w : World)
    (c5 : w.cell? ⟨b5, 0, none⟩ = some (.float .f64 dec)) (c6 : w.cell? ⟨b6, 0, none⟩ = some (.float .f64 h0)) :
    Calls Tryf.prog 19 #[dayV b5 b6 sa sl cl, .float .f64 t] w fun e w' => e = .returned (sampV t dec r) ∧ Below w.heap.size w w' := by
  have l5 := lt_of_cell c5
  have l6 := lt_of_cell c6
  go_enter Tryf.func19, Tryf.ntmps19
  go_wp2_with (go_at_call 17; refine (sky_any t dec h0 m r b5 b6 hm hr _ (cell_al (cell_al c5 _) _) (cell_al (cell_al c6 _) _)).mono ?_; rintro e w' ⟨rfl, nq, rfl⟩)
  exact bodyPost_ret (v := sampV t dec r) (by simp [results, Tryf.results19, go_sem]) rfl ⟨rfl, by repeat (first | exact Below.refl _ _ | refine Below.setCell ?_ (by exact Nat.le_succ _) _ | refine below_drewN ?_ _ | refine Below.alloc ?_ (by simp) _)⟩
end Go.Proofs.Qxb6609382aFmt.W
