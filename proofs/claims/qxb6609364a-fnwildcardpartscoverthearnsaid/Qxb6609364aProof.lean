import Derived.Test.Qxb6609364aRows
import Derived.Test.Qxb6609364aV
namespace Go.Proofs.Qxb6609364a.fnWildcardPartsCoverTheArn
open Go.ChangeShapes Go.WideShapes Go.ChangeAt Go.RowKit
open Go.ChangeMaps (open_string shut_string)

theorem own : ownKnob Try.prog.godebug = none := by kernel_rfl
theorem laidOut : laidOutB Try.prog = true := by kernel_rfl
theorem cells4 : Try.prog.cellsOf 4 = 1 := by kernel_rfl
theorem cells9 : Try.prog.cellsOf 9 = 1 := by kernel_rfl
theorem cells43 : Try.prog.cellsOf 43 = 1 := by kernel_rfl
theorem cells44 : Try.prog.cellsOf 44 = 1 := by kernel_rfl

set_option maxRecDepth 100000 in
theorem lifted (os : Os) (started : os.Started) (H : Type) (enc : TypeId × Value → H) :
    ReturnsInHanded {} Try.checked os 3 .any (Rows.fnWildcardPartsCoverTheArnSpec.pre6 enc Try.prog Try.f3 Rows.fnWildcardPartsCoverTheArnRow.domain false) (Rows.fnWildcardPartsCoverTheArnSpec.post enc Try.prog Try.f3 false true false false) := by
  refine returnsInHanded_of_change (C := Try.checked) own started (by kernel_rfl) Try.func3
    (ChangeSpec.witness6 (enc := enc) (C := Try.checked) false ⟨#[], #[.bool false, .bool false, .int .i8 0, .string ByteArray.empty, .slice none 0 0, .slice none 0 0, .slice none 0 0, .slice none 0 0], []⟩ 8 (by kernel_rfl) (by kernel_rfl) (by kernel_rfl) (by kernel_rfl)) ?_
  intro W base args ds gs before hval0 hW hcnd _
  have hval : ∀ (j : Nat) t v, Try.f3.params[j]? = some t → args[j]? = some v → Value.okWide Try.prog W .any base t v := hval0
  have hW' := hW
  obtain ⟨p, q, hA0, hV, rfl, hfz, hnd⟩ := hW
  have hA : DataW.TrodAll enc Try.prog W 0 (fun _ => true) true Try.f3.params.toList args.toList ds p := hA0
  rw [Try.params3] at hA hval
  obtain ⟨v0, vs0, d0, ds0, p0, q0, hargs, rfl, rfl, h0, r0⟩ := trodAll_cons hA
  obtain ⟨v1, vs1, d1, ds1, p1, q1, rfl, rfl, rfl, h1, r1⟩ := trodAll_cons r0
  obtain ⟨v2, vs2, d2, ds2, p2, q2, rfl, rfl, rfl, h2, r2⟩ := trodAll_cons r1
  obtain ⟨v3, vs3, d3, ds3, p3, q3, rfl, rfl, rfl, h3, r3⟩ := trodAll_cons r2
  obtain ⟨v4, vs4, d4, ds4, p4, q4, rfl, rfl, rfl, h4, r4⟩ := trodAll_cons r3
  obtain ⟨v5, vs5, d5, ds5, p5, q5, rfl, rfl, rfl, h5, r5⟩ := trodAll_cons r4
  obtain ⟨v6, vs6, d6, ds6, p6, q6, rfl, rfl, rfl, h6, r6⟩ := trodAll_cons r5
  obtain ⟨v7, vs7, d7, ds7, p7, q7, rfl, rfl, rfl, h7, r7⟩ := trodAll_cons r6
  obtain ⟨rfl, rfl, rfl⟩ := trodAll_nil r7
  obtain rfl : args = #[v0, v1, v2, v3, v4, v5, v6, v7] := by cases args; simp_all
  obtain ⟨rfl, rfl⟩ := trodVars_none hV
  obtain ⟨a0, rfl, rfl, rfl⟩ := open_bool Try.underlying4 (hval 0 4 v0 rfl rfl) h0
  obtain ⟨a1, rfl, rfl, rfl⟩ := open_bool Try.underlying4 (hval 1 4 v1 rfl rfl) h1
  obtain ⟨a2, rfl, rfl, rfl, w2⟩ := open_int Try.underlying22 (hval 2 22 v2 rfl rfl) h2
  obtain ⟨s3, rfl, rfl, rfl, hs3⟩ := open_string Try.underlying9 (hval 3 9 v3 rfl rfl) h3
  obtain ⟨b4, l4, c4, rfl⟩ := okWide_slice Try.underlying23 (hval 4 23 v4 rfl rfl)
  obtain ⟨b5, l5, c5, rfl⟩ := okWide_slice Try.underlying23 (hval 5 23 v5 rfl rfl)
  obtain ⟨b6, l6, c6, rfl⟩ := okWide_slice Try.underlying24 (hval 6 24 v6 rfl rfl)
  obtain ⟨b7, l7, c7, rfl⟩ := okWide_slice Try.underlying25 (hval 7 25 v7 rfl rfl)
  have k4 := h4
  have k5 := h5
  have k6 := h6
  have k7 := h7
  have lt4 : ∀ x ∈ p4, x.block < W.heap.size := by obtain ⟨m, hm⟩ := k4; exact DataW.trod_lt m _ _ _ hm
  have lt5 : ∀ x ∈ p5, x.block < W.heap.size := by obtain ⟨m, hm⟩ := k5; exact DataW.trod_lt m _ _ _ hm
  have lt6 : ∀ x ∈ p6, x.block < W.heap.size := by obtain ⟨m, hm⟩ := k6; exact DataW.trod_lt m _ _ _ hm
  have lt7 : ∀ x ∈ p7, x.block < W.heap.size := by obtain ⟨m, hm⟩ := k7; exact DataW.trod_lt m _ _ _ hm
  obtain ⟨F, hF⟩ : ∃ F : Nat → Bool, Qxb6609364a.W.Cells W b4 l4 (fun i => .bool (F i)) := by
    obtain ⟨fuel, hf⟩ := h4
    exact Qxb6609364a.W.view_bools Try.underlying23 cells4 Try.underlying4 (by simpa [Value.cells] using hf)
  obtain ⟨P, hP⟩ : ∃ F : Nat → Bool, Qxb6609364a.W.Cells W b5 l5 (fun i => .bool (F i)) := by
    obtain ⟨fuel, hf⟩ := h5
    exact Qxb6609364a.W.view_bools Try.underlying23 cells4 Try.underlying4 (by simpa [Value.cells] using hf)
  obtain ⟨m6, T, hT⟩ : l6 ≤ maxLen ∧ ∃ T : Nat → ByteArray, Qxb6609364a.W.Cells W b6 l6 (fun i => .string (T i)) := by
    obtain ⟨fuel, hf⟩ := h6
    exact Qxb6609364a.W.view_strs Try.underlying24 cells9 Try.underlying9 (by simpa [Value.cells] using hf)
  obtain ⟨m7, A, L, C, A2, L2, C2, hS, hI, hL⟩ : l7 ≤ maxLen ∧ ∃ (A : Nat → Option Addr) (L C : Nat → Nat) (A2 : Nat → Nat → Option Addr) (L2 C2 : Nat → Nat → Nat), Qxb6609364a.W.Cells W b7 l7 (fun i => .slice (A i) (L i) (C i)) ∧ (∀ i, i < l7 → Qxb6609364a.W.Cells W (A i) (L i) (fun j => .slice (A2 i j) (L2 i j) (C2 i j))) ∧ ∀ i, i < l7 → L i ≤ maxLen := by
    obtain ⟨fuel, hf⟩ := h7
    exact Qxb6609364a.W.view_deep Try.underlying25 cells43 Try.underlying43 cells44 Try.underlying44 (by simpa [Value.cells] using hf)
  obtain ⟨g1, g2⟩ := bounds_i8 w2
  clear hA0 hval0
  refine (Qxb6609364a.W.law_any W a0 a1 a2 s3 b4 b5 b6 b7 l4 c4 l5 c5 l6 c6 l7 c7 F P T A L C A2 L2 C2 hF hP hT hS hI (by simpa [maxLen] using m6) (by simpa [maxLen] using m7) (fun i hi => by simpa [maxLen] using hL i hi) (by omega) (by omega)).mono fun e W' ⟨he, bel⟩ => ?_
  subst he
  exact ⟨_, rfl, _, _, _, [], _, [], hW', trodAll_mk1 (shut_bool Try.underlying4 _), (trodAll_cons_mk (shut_bool Try.underlying4 _) (trodAll_cons_mk (shut_bool Try.underlying4 _) (trodAll_cons_mk (shut_int Try.underlying22 w2) (trodAll_cons_mk (shut_string Try.underlying9 hs3) (trodAll_cons_mk (Below.trod laidOut (by kernel_rfl) (of_decide_eq_true (by kernel_rfl)) k4 bel lt4) (trodAll_cons_mk (Below.trod laidOut (by kernel_rfl) (of_decide_eq_true (by kernel_rfl)) k5 bel lt5) (trodAll_cons_mk (Below.trod laidOut (by kernel_rfl) (of_decide_eq_true (by kernel_rfl)) k6 bel lt6) (trodAll_cons_mk (Below.trod laidOut (by kernel_rfl) (of_decide_eq_true (by kernel_rfl)) k7 bel lt7) trodAll_mk0)))))))), rfl, bel.frame _, fun h => by cases h⟩

theorem over : Rows.fnWildcardPartsCoverTheArnRow.holds Try.pinned (OpenSpec.ofChange Rows.fnWildcardPartsCoverTheArnSpec) :=
  OpenClaim.holds_of_wide 3 Try.f3 rfl rfl rfl rfl rfl rfl rfl ⟨rfl, rfl, rfl, rfl, rfl⟩ rfl rfl rfl rfl rfl (by kernel_rfl) Try.func3 (by kernel_rfl)
    (of_decide_eq_true (by kernel_rfl)) (by unfold Func.isWrapper; first | (rw [if_pos (by decide +kernel)]; kernel_rfl) | (rw [if_neg (by decide +kernel)]; exact ⟨rfl, rfl⟩))
    (fun os started H enc _ => lifted os started H enc)

/-- THE STATEMENT. -/
theorem proved : Rows.FnWildcardPartsCoverTheArnSaid := over
end Go.Proofs.Qxb6609364a.fnWildcardPartsCoverTheArn
