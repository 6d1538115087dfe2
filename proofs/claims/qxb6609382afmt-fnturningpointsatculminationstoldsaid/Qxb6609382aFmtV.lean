import Derived.Test.Qxb6609382aFmtB
import Derived.Test.Qxb6609382aFmtRows
import Derived.ProofKit
import Derived.Stop.JoinedAt
import Derived.Stop.JoinedTold
import Derived.OpenShut
import Derived.OpenVars
import Derived.Lay
import Derived.MakeChecks
import Derived.Laws.Cover2
import Derived.Lib.LaidU8
namespace Go.Proofs.Qxb6609382aFmt.W
open Go.RowKit Go.Kit
open Go.Extern.Stop Go.Stop Go.Extern

theorem own : ownKnob Tryf.prog.godebug = none := by kernel_rfl
theorem laidOut : laidOutB Tryf.pinned.checked.prog = true := by kernel_rfl
theorem stops : Tryf.pinned.checked.prog.stops = ["fmt.errorf"] := by kernel_rfl
theorem stopKnobs : Tryf.pinned.checked.prog.stopKnobs = [] := by kernel_rfl
theorem quiet (os : Os) : Stop.quiet Tryf.pinned.checked.prog os := by
  intro k hk
  rw [stopKnobs] at hk
  cases hk
theorem gCos : Tryf.prog.globalNamed "math._cos" = some 3 := by kernel_rfl
theorem gSin : Tryf.prog.globalNamed "math._sin" = some 4 := by kernel_rfl
theorem gDay : Tryf.prog.globalNamed "example.com/almucantar/almucantar.siderealDay" = some 0 := by kernel_rfl
theorem gRate : Tryf.prog.globalNamed "example.com/almucantar/almucantar.siderealRate" = some 1 := by kernel_rfl
theorem tCos : (Tryf.prog.globals[3]?).map (·.type) = some 83 := by kernel_rfl
theorem tSin : (Tryf.prog.globals[4]?).map (·.type) = some 83 := by kernel_rfl
theorem tDay : (Tryf.prog.globals[0]?).map (·.type) = some 22 := by kernel_rfl
theorem tRate : (Tryf.prog.globals[1]?).map (·.type) = some 22 := by kernel_rfl
theorem cells83 : Tryf.prog.cellsOf 83 = 6 := by kernel_rfl
theorem cells22 : Tryf.prog.cellsOf 22 = 1 := by kernel_rfl

/-- What the rows list. -/
def laid : List (String × DataW Unit) := [("math._sin", Rows.laid_math_sin), ("math._cos", Rows.laid_math_cos), ("math.mPi4", Rows.laid_math_mPi4), ("example.com/almucantar/almucantar.siderealRate", Rows.laid_example_com_almucantar_almucantar_siderealRate), ("example.com/almucantar/almucantar.siderealDay", Rows.laid_example_com_almucantar_almucantar_siderealDay)]

theorem float_of_trod {H : Type} {enc : TypeId × Value → H} {w : World} {base : Nat} {sp : Nat → Bool} {held : Bool} {fuel : Nat} {cs : List Value} {y : DataW H × List MemPlace}
    (h : DataW.trod enc Tryf.prog w base sp held fuel 22 cs = some y) : ∃ b, cs = [.float .f64 b] ∧ y.1 = .lit (.float .f64 b) := by
  cases fuel with
  | zero => simp [DataW.trod] at h
  | succ n =>
    unfold DataW.trod at h
    rw [Tryf.underlying22] at h
    match cs, h with
    | [], h => simp at h
    | [c], h =>
      cases c <;> simp at h
      rename_i k b
      cases k <;> simp at h
      exact ⟨b, rfl, by rw [← h.2]⟩
    | _ :: _ :: _, h => simp at h

theorem six {W : World} {n : String} {g : Nat} {v0 v1 v2 v3 v4 v5 : Nat} (hg : Tryf.prog.globalNamed n = some g) (hgt : (Tryf.prog.globals[g]?).map (·.type) = some 83)
    (h : Lib.VarReads Tryf.prog W n (.agg [.lit (.float .f64 v0), .lit (.float .f64 v1), .lit (.float .f64 v2), .lit (.float .f64 v3), .lit (.float .f64 v4), .lit (.float .f64 v5)])) :
    W.cell? ⟨g, 0, none⟩ = some (.float .f64 v0) ∧ W.cell? ⟨g, 1, none⟩ = some (.float .f64 v1) ∧ W.cell? ⟨g, 2, none⟩ = some (.float .f64 v2) ∧ W.cell? ⟨g, 3, none⟩ = some (.float .f64 v3) ∧ W.cell? ⟨g, 4, none⟩ = some (.float .f64 v4) ∧ W.cell? ⟨g, 5, none⟩ = some (.float .f64 v5) := by
  obtain ⟨g', t, cs, fuel, p, h1, h2, h3, h4⟩ := h
  obtain rfl := Option.some.inj (hg.symm.trans h1)
  obtain rfl := Option.some.inj (hgt.symm.trans h2)
  have hc := World.var?_cell hg h3
  obtain ⟨xs, m, rfl, hx, hl, hn, hi⟩ := DataW.trod_array Tryf.underlying83 h4
  simp only [Prod.mk.injEq, DataW.agg.injEq] at hx
  have hxs := hx.1
  rw [cells22] at hi
  obtain ⟨l⟩ := cs
  rw [cells83] at hl
  match xs, hxs with
  | [x0, x1, x2, x3, x4, x5], hxs =>
    simp only [List.map_cons, List.map_nil, List.cons.injEq, and_true] at hxs
    obtain ⟨e0, e1, e2, e3, e4, e5⟩ := hxs
    match l, hl with
    | [c0, c1, c2, c3, c4, c5], _ =>
      have f : ∀ (j : Nat) (c : Value) (x : DataW Unit × List MemPlace) (b : Nat), DataW.trod (fun _ => ()) Tryf.prog W 0 (fun _ => true) false m 22 [c] = some x → .lit (.float .f64 b) = x.1 → c = .float .f64 b := by
        intro j c x b h e
        obtain ⟨b', h1, h2⟩ := float_of_trod h
        rw [h2] at e
        simp only [List.cons.injEq, and_true] at h1
        simp only [DataW.lit.injEq, Lit.float.injEq, true_and] at e
        rw [h1, e]
      refine ⟨?_, ?_, ?_, ?_, ?_, ?_⟩
      · rw [hc, f 0 c0 x0 v0 (hi 0 (by decide)) e0]; rfl
      · rw [hc, f 1 c1 x1 v1 (hi 1 (by decide)) e1]; rfl
      · rw [hc, f 2 c2 x2 v2 (hi 2 (by decide)) e2]; rfl
      · rw [hc, f 3 c3 x3 v3 (hi 3 (by decide)) e3]; rfl
      · rw [hc, f 4 c4 x4 v4 (hi 4 (by decide)) e4]; rfl
      · rw [hc, f 5 c5 x5 v5 (hi 5 (by decide)) e5]; rfl

theorem lone_cell {W : World} {n : String} {g : Nat} {v : Nat} (hg : Tryf.prog.globalNamed n = some g) (hgt : (Tryf.prog.globals[g]?).map (·.type) = some 22)
    (h : Lib.VarReads Tryf.prog W n (.lit (.float .f64 v))) : W.cell? ⟨g, 0, none⟩ = some (.float .f64 v) := by
  obtain ⟨g', t, cs, fuel, p, h1, h2, h3, h4⟩ := h
  obtain rfl := Option.some.inj (hg.symm.trans h1)
  obtain rfl := Option.some.inj (hgt.symm.trans h2)
  obtain ⟨b, hb, e⟩ := float_of_trod h4
  simp only [DataW.lit.injEq, Lit.float.injEq, true_and] at e
  rw [World.var?_cell hg h3 0]
  obtain ⟨l⟩ := cs
  simp only at hb
  rw [hb, e]; rfl

theorem glob_of_laid {W : World} (h : laidMet Tryf.prog laid W) : Glob W ∧ W.cell? ⟨0, 0, none⟩ = some (.float .f64 4607157826112761935) ∧ W.cell? ⟨1, 0, none⟩ = some (.float .f64 4618779624111797601) := by
  have s := six gSin tSin (Lib.laidMet.reads h (n := "math._sin") (d := Rows.laid_math_sin) (by simp [laid]))
  have c := six gCos tCos (Lib.laidMet.reads h (n := "math._cos") (d := Rows.laid_math_cos) (by simp [laid]))
  have a := lone_cell gDay tDay (Lib.laidMet.reads h (n := "example.com/almucantar/almucantar.siderealDay") (d := Rows.laid_example_com_almucantar_almucantar_siderealDay) (by simp [laid]))
  have b := lone_cell gRate tRate (Lib.laidMet.reads h (n := "example.com/almucantar/almucantar.siderealRate") (d := Rows.laid_example_com_almucantar_almucantar_siderealRate) (by simp [laid]))
  exact ⟨⟨c.1, c.2.1, c.2.2.1, c.2.2.2.1, c.2.2.2.2.1, c.2.2.2.2.2, s.1, s.2.1, s.2.2.1, s.2.2.2.1, s.2.2.2.2.1, s.2.2.2.2.2⟩, a, b⟩

theorem laidH (w : World) : laidMetH Tryf.prog laid w = laidMet Tryf.prog laid w := MakeChecks.laidMetH_plain _ _ _ (by kernel_rfl)

theorem laid_met (os : Os) (args : Array Value) : laidMetH Tryf.prog laid ((World.laidAll Tryf.prog os laid).forCall (fun _ _ => 0) ⟨#[], args, []⟩).memory := by
  rw [laidH]
  exact laidMet_laidAll _ (by kernel_rfl) (by kernel_rfl)

theorem wf_lt {b : Nat} (h : (Lit.float .f64 b).wf = true) : b < 18446744073709551616 := by
  simpa [Lit.wf] using h

end Go.Proofs.Qxb6609382aFmt.W
