import Derived.Test.Qxb6609382aFmtU
import Derived.Test.Qxb6609382aFmtV
import Derived.Test.Qxb6609382aFmtTie
import Derived.Test.Qxb6609382aFmtCards
import Derived.SevenTiedAt
namespace Go.Proofs.Qxb6609382aFmt.fnTurningPointsFixedStar
open Go.ChangeShapes Go.WideShapes Go.ChangeAt Go.RowKit Go.Kit
open Go.Extern.Stop Go.Stop Go.Extern

set_option maxRecDepth 100000 in
theorem lifted (os : Os) (started : os.Started) (H : Type) (enc : TypeId × Value → H) :
    ReturnsInTold none {} Tryf.checked os 3 .any Input.okWide ((OpenSpec.ofChange Rows.fnTurningPointsFixedStarSpec).preRow enc Tryf.prog Tryf.f3 [] false W.laid) (fun F => ((OpenSpec.ofChange Rows.fnTurningPointsFixedStarSpec).at F).post enc Tryf.prog Tryf.f3 false true false false) (aloneAtReturn Tryf.prog) nothingAlways := by
  refine returnsInTold_of_row (C := Tryf.checked) (s := OpenSpec.ofChange Rows.fnTurningPointsFixedStarSpec) (by kernel_rfl) W.own started (by kernel_rfl) Tryf.func3
    (OpenSpec.witness_stopped_at (enc := enc) (C := Tryf.checked) false (World.laidAll Tryf.prog os W.laid) #[.float .f64 0, .float .f64 0, .float .f64 0, .float .f64 0, .float .f64 0] (World.laidAll_os _ _ _) (by kernel_rfl) (by kernel_rfl) (by kernel_rfl)
      (OpenSpec.preRow_of_B rfl 8 (by kernel_rfl) (by kernel_rfl) (W.laid_met os _))) ?_
  intro F W0 base args ds gs before _ hF hval0 hW _ _ _ hL _
  have hval : ∀ (j : Nat) t v, Tryf.f3.params[j]? = some t → args[j]? = some v → Value.okWide Tryf.prog W0 .any base t v := hval0
  have hW' := hW
  obtain ⟨p, q, hA0, hV, rfl, hfz, hnd⟩ := hW
  have hA : DataW.TrodAll enc Tryf.prog W0 0 (fun _ => true) true Tryf.f3.params.toList args.toList ds p := hA0
  rw [Tryf.params3] at hA hval
  obtain ⟨v0, vs0, d0, ds0, p0, q0, hargs, rfl, rfl, h0, r0⟩ := trodAll_cons hA
  obtain ⟨v1, vs1, d1, ds1, p1, q1, rfl, rfl, rfl, h1, r1⟩ := trodAll_cons r0
  obtain ⟨v2, vs2, d2, ds2, p2, q2, rfl, rfl, rfl, h2, r2⟩ := trodAll_cons r1
  obtain ⟨v3, vs3, d3, ds3, p3, q3, rfl, rfl, rfl, h3, r3⟩ := trodAll_cons r2
  obtain ⟨v4, vs4, d4, ds4, p4, q4, rfl, rfl, rfl, h4, r4⟩ := trodAll_cons r3
  obtain ⟨rfl, rfl, rfl⟩ := trodAll_nil r4
  obtain rfl : args = #[v0, v1, v2, v3, v4] := by cases args; simp_all
  obtain ⟨c0, rfl, rfl, rfl, w0⟩ := open_float Tryf.underlying22 (hval 0 22 v0 rfl rfl) h0
  obtain ⟨c1, rfl, rfl, rfl, w1⟩ := open_float Tryf.underlying22 (hval 1 22 v1 rfl rfl) h1
  obtain ⟨c2, rfl, rfl, rfl, w2⟩ := open_float Tryf.underlying22 (hval 2 22 v2 rfl rfl) h2
  obtain ⟨c3, rfl, rfl, rfl, w3⟩ := open_float Tryf.underlying22 (hval 3 22 v3 rfl rfl) h3
  obtain ⟨c4, rfl, rfl, rfl, w4⟩ := open_float Tryf.underlying22 (hval 4 22 v4 rfl rfl) h4
  clear hA0 hval0
  obtain ⟨g1, g2, rfl⟩ : ∃ g1 g2, gs = [g1, g2] := by
    have hV2 : DataW.TrodVars enc Tryf.prog W0 (fun _ => true) ["example.com/almucantar/almucantar.siderealDay", "example.com/almucantar/almucantar.siderealRate"] gs q := hV
    match gs, hV2 with
    | [a, b], _ => exact ⟨a, b, rfl⟩
  have hg := W.glob_of_laid ((W.laidH W0).mp hL)
  refine (W.law3_walk c0 c1 c2 c3 c4 (W.wf_lt w0) (W.wf_lt w1) (W.wf_lt w2) (W.wf_lt w3) (W.wf_lt w4) W0 hg.1 hg.2.1 hg.2.2).mono fun e W' ⟨he, bel⟩ => ?_
  subst he
  refine ⟨_, rfl, _, _, _, [], _, _, hW', trodAll_mk1 (shut_bool Tryf.underlying4 _), (trodAll_cons_mk (shut_float Tryf.underlying22 w0) (trodAll_cons_mk (shut_float Tryf.underlying22 w1) (trodAll_cons_mk (shut_float Tryf.underlying22 w2) (trodAll_cons_mk (shut_float Tryf.underlying22 w3) (trodAll_cons_mk (shut_float Tryf.underlying22 w4) trodAll_mk0))))), Below.trodVars W.laidOut bel (by kernel_rfl) hV, bel.frame _, fun h => by cases h⟩

theorem card : Claim7.holds Tryf.pinned (.plain (OpenSpec.ofChange Rows.fnTurningPointsFixedStarSpec)) (Claim7.toldTiedRowAt .later Rows.fnTurningPointsFixedStarRow (true, "48f59b4778b579220a75f47e8671e0381d9234e9c76ec3d96a2d14c7f5961f46") false false [.data, .data, .data, .data, .wider] true) :=
  Claim7.holds_of_told_tied_any_at .later 3 Tryf.f3 "fmt.errorf" [] [] _ _ _ _ _ (by kernel_rfl) rfl rfl rfl W.laidOut (by kernel_rfl) rfl ⟨rfl, rfl, rfl, rfl, rfl, rfl, rfl⟩ rfl rfl (by kernel_rfl) (by kernel_rfl) Tryf.func3 (by kernel_rfl)
    (of_decide_eq_true (by kernel_rfl)) (of_decide_eq_true (by kernel_rfl)) W.stops.symm rfl W.stopKnobs.symm (by kernel_rfl)
    (by kernel_rfl) (by kernel_rfl) (by kernel_rfl) (by kernel_rfl) (by kernel_rfl) (by kernel_rfl) (by kernel_rfl) (by kernel_rfl) (by kernel_rfl) rfl (by kernel_rfl) rfl rfl
    rfl rfl
    rfl (by kernel_rfl) (by kernel_rfl) (by kernel_rfl) (by decide) (by kernel_rfl) fnTurningPointsFixedStar_row_tie
    (OpenClaim.moreEntering_of (by kernel_rfl) (by kernel_rfl) (by kernel_rfl) (by kernel_rfl) (by kernel_rfl) (by kernel_rfl) (by kernel_rfl) (by kernel_rfl) (by kernel_rfl) (by kernel_rfl))
    ⟨_, WideRow.started_initial, W.quiet _⟩
    (fun os started _ H enc _ => lifted os started H enc)

/-- THE STATEMENT. -/
theorem proved : Rows.FnTurningPointsFixedStarToldSaid := card

end Go.Proofs.Qxb6609382aFmt.fnTurningPointsFixedStar
