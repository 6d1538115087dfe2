import Derived.Test.Qxb6609382aRows
import Derived.Test.Qxb6609382aG
import Derived.Test.Qxb6609382aV
namespace Go.Proofs.Qxb6609382a.fnAppendPlacesSplit
open Go.ChangeShapes Go.WideShapes Go.ChangeAt Go.RowKit

set_option maxRecDepth 100000 in
theorem lifted (os : Os) (started : os.Started) (H : Type) (enc : TypeId × Value → H) :
    ReturnsInHanded {} Try.checked os 4 .any (Rows.fnAppendPlacesSplitSpec.pre6 enc Try.prog Try.f4 Rows.fnAppendPlacesSplitRow.domain false) (Rows.fnAppendPlacesSplitSpec.post enc Try.prog Try.f4 false true false false) := by
  refine returnsInHanded_of_change (C := Try.checked) Qxb6609382a.W.own started (by kernel_rfl) Try.func4
    (ChangeSpec.witness6 (enc := enc) (C := Try.checked) false ⟨#[], #[.slice none 0 0, .slice none 0 0, .slice none 0 0], []⟩ 8 (by kernel_rfl) (by kernel_rfl) (by kernel_rfl) (by kernel_rfl)) ?_
  intro W base args ds gs before hval0 hW hcnd _
  have hval : ∀ (j : Nat) t v, Try.f4.params[j]? = some t → args[j]? = some v → Value.okWide Try.prog W .any base t v := hval0
  have hW' := hW
  obtain ⟨p, q, hA0, hV, rfl, hfz, hnd⟩ := hW
  have hA : DataW.TrodAll enc Try.prog W 0 (fun _ => true) true Try.f4.params.toList args.toList ds p := hA0
  rw [Try.params4] at hA hval
  obtain ⟨v0, vs0, d0, ds0, p0, q0, hargs, rfl, rfl, h0, r0⟩ := trodAll_cons hA
  obtain ⟨v1, vs1, d1, ds1, p1, q1, rfl, rfl, rfl, h1, r1⟩ := trodAll_cons r0
  obtain ⟨v2, vs2, d2, ds2, p2, q2, rfl, rfl, rfl, h2, r2⟩ := trodAll_cons r1
  obtain ⟨rfl, rfl, rfl⟩ := trodAll_nil r2
  obtain rfl : args = #[v0, v1, v2] := by cases args; simp_all
  obtain ⟨rfl, rfl⟩ := trodVars_none hV
  obtain ⟨a0, l0, c0, rfl⟩ := okWide_slice Try.underlying22 (hval 0 22 v0 rfl rfl)
  obtain ⟨a1, l1, c1, rfl⟩ := okWide_slice Try.underlying23 (hval 1 23 v1 rfl rfl)
  obtain ⟨a2, l2, c2, rfl⟩ := okWide_slice Try.underlying23 (hval 2 23 v2 rfl rfl)
  have k2 := h2
  have lt2 : ∀ x ∈ p2, x.block < W.heap.size := by obtain ⟨m, hm⟩ := k2; exact DataW.trod_lt m _ _ _ hm
  have k0 := h0
  have k1 := h1
  have lt0 : ∀ x ∈ p0, x.block < W.heap.size := by obtain ⟨m, hm⟩ := k0; exact DataW.trod_lt m _ _ _ hm
  have lt1 : ∀ x ∈ p1, x.block < W.heap.size := by obtain ⟨m, hm⟩ := k1; exact DataW.trod_lt m _ _ _ hm
  obtain ⟨n0, R0, D0, hP0⟩ : (a0 = none → l0 = 0) ∧ ∃ R D : Nat → Nat, Qxb6609382a.W.Pairs W a0 l0 R D := by
    obtain ⟨fuel, hf⟩ := h0
    exact Qxb6609382a.W.view_pairs Try.underlying22 Qxb6609382a.W.cells41 Try.underlying41 ⟨rfl, rfl⟩ ⟨rfl, rfl⟩ (by simpa [Value.cells] using hf)
  obtain ⟨n1, R1, D1, hP1⟩ : (a1 = none → l1 = 0) ∧ ∃ R D : Nat → Nat, Qxb6609382a.W.Pairs W a1 l1 R D := by
    obtain ⟨fuel, hf⟩ := h1
    exact Qxb6609382a.W.view_pairs Try.underlying23 Qxb6609382a.W.cells35 Try.underlying35 ⟨rfl, rfl⟩ ⟨rfl, rfl⟩ (by simpa [Value.cells] using hf)
  obtain ⟨n2, R2, D2, hP2⟩ : (a2 = none → l2 = 0) ∧ ∃ R D : Nat → Nat, Qxb6609382a.W.Pairs W a2 l2 R D := by
    obtain ⟨fuel, hf⟩ := h2
    exact Qxb6609382a.W.view_pairs Try.underlying23 Qxb6609382a.W.cells35 Try.underlying35 ⟨rfl, rfl⟩ ⟨rfl, rfl⟩ (by simpa [Value.cells] using hf)
  clear hA0 hval0
  refine (Qxb6609382a.W.split_any W a0 a1 a2 l0 l1 l2 c0 c1 c2 R0 D0 R1 D1 R2 D2 hP0 hP1 hP2 n0).mono fun e W' ⟨he, bel⟩ => ?_
  subst he
  exact ⟨_, rfl, _, _, _, [], _, [], hW', trodAll_mk1 (shut_bool Try.underlying4 _), (trodAll_cons_mk (Below.trod Qxb6609382a.W.laidOut (by kernel_rfl) (of_decide_eq_true (by kernel_rfl)) k0 bel lt0) (trodAll_cons_mk (Below.trod Qxb6609382a.W.laidOut (by kernel_rfl) (of_decide_eq_true (by kernel_rfl)) k1 bel lt1) (trodAll_cons_mk (Below.trod Qxb6609382a.W.laidOut (by kernel_rfl) (of_decide_eq_true (by kernel_rfl)) k2 bel lt2) trodAll_mk0))), rfl, bel.frame _, fun h => by cases h⟩

theorem over : Rows.fnAppendPlacesSplitRow.holds Try.pinned (OpenSpec.ofChange Rows.fnAppendPlacesSplitSpec) :=
  OpenClaim.holds_of_wide 4 Try.f4 rfl rfl rfl rfl rfl rfl rfl ⟨rfl, rfl, rfl, rfl, rfl⟩ rfl rfl rfl rfl rfl (by kernel_rfl) Try.func4 (by kernel_rfl)
    (of_decide_eq_true (by kernel_rfl)) (by unfold Func.isWrapper; first | (rw [if_pos (by decide +kernel)]; kernel_rfl) | (rw [if_neg (by decide +kernel)]; exact ⟨rfl, rfl⟩))
    (fun os started H enc _ => lifted os started H enc)

/-- THE STATEMENT. -/
theorem proved : Rows.FnAppendPlacesSplitSaid := over
end Go.Proofs.Qxb6609382a.fnAppendPlacesSplit
