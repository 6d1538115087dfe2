import Derived.Test.Qxb6609266aRows
import Derived.Test.Qxb6609266aWk
import Derived.WalkKit
import Derived.ProofKit
import Derived.OpenShut
import Derived.ShutString
namespace Go.Proofs.Qxb6609266a.fnAbstainsWindowIsTheRoundsBelowAbstainUntil
open Go.ChangeShapes Go.WideShapes Go.ChangeAt Go.RowKit
open Go.ChangeMaps (open_string shut_string)
set_option linter.unusedVariables false      -- a walk need not use every 'w<i>' (that an integer argument fits its kind)

theorem own : ownKnob Try.prog.godebug = none := by kernel_rfl

/-! ### STEP 1: THE WALK: the Go text returns true. 'Grown w w'': the world has at most new blocks (Derived/RowKit3.lean). Part the cases AHEAD of 'go_enter' where a test parts the walk; take each callee by a contract of your own. -/
set_option maxHeartbeats 4000000 in
theorem walk (a0 : Int) (a1 : Int) (a2 : Int) (a3 : Int) (a4 : Bool) (w0 : (Lit.int .i64 a0).wf = true) (w1 : (Lit.int .u64 a1).wf = true) (w2 : (Lit.int .u64 a2).wf = true) (w3 : (Lit.int .i64 a3).wf = true) (w : World) :
    Calls Try.prog 3 #[.int .i64 a0, .int .u64 a1, .int .u64 a2, .int .i64 a3, .bool a4] w fun e w' => e = .returned (.bool true) ∧ Grown w w' := by
  obtain ⟨b1a, b1b⟩ := bounds_u64 w1
  obtain ⟨b2a, b2b⟩ := bounds_u64 w2
  clear w0 w1 w2 w3
  have A1 : AB.ab a0 a1 a2 a3 true = true := by simp [AB.ab]
  have A2 : AB.ab a0 a1 a2 a0 false = false := by simp [AB.ab]
  have A4 : AB.ab a0 a1 a1 a3 false = false := by simp [AB.ab]
  have hG : Grown w w := Grown.refl w
  by_cases hn : a0 < 0
  · go_enter Try.func3, Try.ntmps3
    go_wp2
    go_ret
    exact ⟨rfl, Grown.refl _⟩
  · have hA : AB.ab a0 a1 a2 a3 a4 = false ∨ (AB.ab a0 a1 a2 a3 a4 = true ∧ AB.ab a0 a1 (a2 - 1) a3 a4 = true) := by
      cases h : AB.ab a0 a1 a2 a3 a4
      · exact Or.inl rfl
      · refine Or.inr ⟨rfl, ?_⟩
        simp only [AB.ab, Bool.or_eq_true, Bool.and_eq_true, decide_eq_true_eq] at h ⊢
        rcases h with h | ⟨h, h'⟩
        · exact Or.inl h
        · exact Or.inr ⟨h, by omega⟩
    by_cases hc : a3 = a0
    · subst hc
      have hd : (a3 != a3) = false := by simp
      rcases hA with hA | ⟨hA, hA'⟩ <;> by_cases hr : 0 < a2
      all_goals
        go_enter Try.func3, Try.ntmps3
        go_wp2_with (go_at_call 4; refine (AB.abst4 _ _ _ _ _ _).mono ?_; rintro e w' ⟨rfl, hg⟩; replace hG := AB.grown_trans hG hg; clear hg)
        go_ret
        exact ⟨rfl, hG⟩
    · have hd : (a3 != a0) = true := by simpa using hc
      by_cases hu : 0 < a1
      · have A3 : AB.ab a0 a1 (a1 - 1) a3 false = true := by
          simp only [AB.ab, hd, Bool.false_or, Bool.true_and, decide_eq_true_eq]; omega
        rcases hA with hA | ⟨hA, hA'⟩ <;> by_cases hr : 0 < a2
        all_goals
          go_enter Try.func3, Try.ntmps3
          go_wp2_with (go_at_call 4; refine (AB.abst4 _ _ _ _ _ _).mono ?_; rintro e w' ⟨rfl, hg⟩; replace hG := AB.grown_trans hG hg; clear hg)
          go_ret
          exact ⟨rfl, hG⟩
      · rcases hA with hA | ⟨hA, hA'⟩ <;> by_cases hr : 0 < a2
        all_goals
          go_enter Try.func3, Try.ntmps3
          go_wp2_with (go_at_call 4; refine (AB.abst4 _ _ _ _ _ _).mono ?_; rintro e w' ⟨rfl, hg⟩; replace hG := AB.grown_trans hG hg; clear hg)
          go_ret
          exact ⟨rfl, hG⟩

/-! ### THE ROW's STEP: WRITTEN OUT: LEAVE IT -/
set_option maxRecDepth 100000 in
theorem lifted (os : Os) (started : os.Started) (H : Type) (enc : TypeId × Value → H) :
    ReturnsInHanded {} Try.checked os 3 .any (Rows.fnAbstainsWindowIsTheRoundsBelowAbstainUntilSpec.pre6 enc Try.prog Try.f3 Rows.fnAbstainsWindowIsTheRoundsBelowAbstainUntilRow.domain false) (Rows.fnAbstainsWindowIsTheRoundsBelowAbstainUntilSpec.post enc Try.prog Try.f3 false true false false) := by
  refine returnsInHanded_of_change (C := Try.checked) own started (by kernel_rfl) Try.func3
    (ChangeSpec.witness6 (enc := enc) (C := Try.checked) false ⟨#[], #[.int .i64 0, .int .u64 0, .int .u64 0, .int .i64 0, .bool false], []⟩ 8 (by kernel_rfl) (by kernel_rfl) (by kernel_rfl) (by kernel_rfl)) ?_
  intro W base args ds gs before hval0 hW hcnd _
  have hval : ∀ (j : Nat) t v, Try.f3.params[j]? = some t → args[j]? = some v → Value.okWide Try.prog W .any base t v := hval0
  have hW' := hW
  obtain ⟨p, q, hA0, hV, rfl, hfz, hnd⟩ := hW
  have hA : DataW.TrodAll enc Try.prog W 0 (fun _ => true) true Try.f3.params.toList args.toList ds p := hA0
  rw [Try.params3] at hA hval
  obtain ⟨v0, vs0, d0, ds0, p0, q0, hargs, rfl, rfl, h0, r0⟩ := trodAll_cons hA
  obtain ⟨v1, vs1, d1, ds1, p1, q1, rfl, rfl, rfl, h1, r1⟩ := trodAll_cons r0
  obtain ⟨v2, vs2, d2, ds2, p2, q2, rfl, rfl, rfl, h2, r2⟩ := trodAll_cons r1
  obtain ⟨v3, vs3, d3, ds3, p3, q3, rfl, rfl, rfl, h3, r3⟩ := trodAll_cons r2
  obtain ⟨v4, vs4, d4, ds4, p4, q4, rfl, rfl, rfl, h4, r4⟩ := trodAll_cons r3
  obtain ⟨rfl, rfl, rfl⟩ := trodAll_nil r4
  obtain rfl : args = #[v0, v1, v2, v3, v4] := by cases args; simp_all
  obtain ⟨rfl, rfl⟩ := trodVars_none hV
  obtain ⟨a0, rfl, rfl, rfl, w0⟩ := open_int Try.underlying3 (hval 0 3 v0 rfl rfl) h0
  obtain ⟨a1, rfl, rfl, rfl, w1⟩ := open_int Try.underlying22 (hval 1 22 v1 rfl rfl) h1
  obtain ⟨a2, rfl, rfl, rfl, w2⟩ := open_int Try.underlying22 (hval 2 22 v2 rfl rfl) h2
  obtain ⟨a3, rfl, rfl, rfl, w3⟩ := open_int Try.underlying3 (hval 3 3 v3 rfl rfl) h3
  obtain ⟨a4, rfl, rfl, rfl⟩ := open_bool Try.underlying4 (hval 4 4 v4 rfl rfl) h4
  clear hA0 hval0
  simp only [List.append_nil] at hW'
  refine (walk a0 a1 a2 a3 a4 w0 w1 w2 w3 W).mono fun e W' ⟨he, hg⟩ => ?_
  subst he
  exact ⟨_, rfl, post_of_same (pa := []) (pv := []) hW' (fun _ _ _ => (trodAll_cons_mk (shut_bool Try.underlying4 _) trodAll_mk0)) (fun sp _ => (trodAll_cons_mk (shut_int Try.underlying3 w0) (trodAll_cons_mk (shut_int Try.underlying22 w1) (trodAll_cons_mk (shut_int Try.underlying22 w2) (trodAll_cons_mk (shut_int Try.underlying3 w3) (trodAll_cons_mk (shut_bool Try.underlying4 _) trodAll_mk0)))))) (fun _ _ => rfl) rfl
    (hg.frame _) hg.2.1 (ok_one (by kernel_rfl) rfl (okWide_bool_mk Try.underlying4 _))⟩

theorem over : Rows.fnAbstainsWindowIsTheRoundsBelowAbstainUntilRow.holds Try.pinned (OpenSpec.ofChange Rows.fnAbstainsWindowIsTheRoundsBelowAbstainUntilSpec) :=
  OpenClaim.holds_of_wide 3 Try.f3 rfl rfl rfl rfl rfl rfl rfl ⟨rfl, rfl, rfl, rfl, rfl⟩ rfl rfl rfl rfl rfl (by kernel_rfl) Try.func3 (by kernel_rfl)
    (of_decide_eq_true (by kernel_rfl)) (by unfold Func.isWrapper; first | (rw [if_pos (by decide +kernel)]; kernel_rfl) | (rw [if_neg (by decide +kernel)]; exact ⟨rfl, rfl⟩))
    (fun os started H enc _ => lifted os started H enc)

/-- ████ THE STATEMENT ████ -/
theorem proved : Rows.FnAbstainsWindowIsTheRoundsBelowAbstainUntilSaid :=
  over
end Go.Proofs.Qxb6609266a.fnAbstainsWindowIsTheRoundsBelowAbstainUntil
