import Derived.Test.Qxb6609382aFmtJ
namespace Go.Proofs.Qxb6609382aFmt.W
open Go.RowKit Go.Proofs.Qxb6609382aFmt.Fl

theorem Glob.below {w w' : World} (h : Glob w) (hb : Below w.heap.size w w') : Glob w' := by
  obtain ⟨c0, c1, c2, c3, c4, c5, s0, s1, s2, s3, s4, s5⟩ := h
  exact ⟨cell_in hb c0, cell_in hb c1, cell_in hb c2, cell_in hb c3, cell_in hb c4, cell_in hb c5, cell_in hb s0, cell_in hb s1, cell_in hb s2, cell_in hb s3, cell_in hb s4, cell_in hb s5⟩
theorem Glob.drewN {w : World} (h : Glob w) (n : Nat) : Glob (w.drewN n) := h.below (below_drewN (Below.refl _ w) n)
theorem Glob.al {w : World} (h : Glob w) (x : Obj) : Glob (w.alloc x) := h.below ((Below.refl _ w).alloc (Nat.le_refl _) x)

theorem quiet0 {f : FuncId} {args : Array Value} {w : World} {v : Value} (h : Calls Tryf.prog f args w fun e w' => e = .returned v ∧ w' = w) : Calls Tryf.prog f args w fun e w' => e = .returned v ∧ ∃ n, w' = w.drewN n :=
  h.mono (by rintro e w' ⟨rfl, rfl⟩; exact ⟨rfl, 0, rfl⟩)

set_option maxHeartbeats 1000000 in
theorem excess_any (t dec h s c ch b5 b6 sa sl cl m1 m2 m3 a1 E : Nat)
    (hS : ∀ w, Glob w → Calls Tryf.prog 35 #[.float .f64 dec] w fun e w' => e = .returned (.tuple #[.float .f64 s, .float .f64 c]) ∧ w' = w)
    (hC : ∀ w, Glob w → Calls Tryf.prog 33 #[.float .f64 h] w fun e w' => e = .returned (.float .f64 ch) ∧ w' = w)
    (e1 : Ieee.double.mul sl s = some m1) (e2 : Ieee.double.mul cl c = some m2) (e3 : Ieee.double.mul m2 ch = some m3) (e4 : Ieee.double.add m1 m3 = some a1) (e5 : Ieee.double.sub a1 sa = some E) (w : World) (hg : Glob w) :
    Calls Tryf.prog 32 #[dayV b5 b6 sa sl cl, sampV t dec h] w fun e w' => e = .returned (.float .f64 E) ∧ Below w.heap.size w w' := by
  have f1 := runMul e1
  have f2 := runMul e2
  have f3 := runMul e3
  have f4 := runAdd e4
  have f5 := runSub e5
  go_enter Tryf.func32, Tryf.ntmps32
  go_wp2_with (go_at_call 35; refine (hS _ ((hg.al _).al _)).mono ?_; rintro e w' ⟨rfl, rfl⟩)
  go_quiet (first | (go_at_call 33; refine Calls.quiet_of (quiet0 (hC _ ?_)); exact ((hg.al _).al _).drewN _))
  go_wp2_with fail
  go_ret
  exact ⟨rfl, below_drewN (((Below.refl _ w).alloc (Nat.le_refl _) _).alloc (by simp) _) _⟩
end Go.Proofs.Qxb6609382aFmt.W
