import Derived.Test.Qxb6609382aD
import Derived.ProofKit
import Derived.OpenShut
import Derived.ShutString
import Derived.ChangeOld
import Derived.Below
namespace Go.Proofs.Qxb6609382a.W
open Go.ChangeShapes Go.WideShapes Go.ChangeAt Go.RowKit Go.Deep

theorem own : ownKnob Try.prog.godebug = none := by kernel_rfl
theorem laidOut : laidOutB Try.prog = true := by kernel_rfl
theorem cells33 : Try.prog.cellsOf 33 = 1 := by kernel_rfl
theorem cells41 : Try.prog.cellsOf 41 = 2 := by kernel_rfl
theorem cells35 : Try.prog.cellsOf 35 = 2 := by kernel_rfl

section
variable {H : Type} {enc : TypeId × Value → H} {w : World} {base : Nat} {spare : Nat → Bool} {held : Bool}

theorem float_cell {fuel : Nat} {cs : List Value} {x : DataW H × List MemPlace} (h : DataW.trod enc Try.prog w base spare held fuel 33 cs = some x) : ∃ b, cs = [.float .f64 b] := by
  cases fuel with
  | zero => simp [DataW.trod] at h
  | succ n =>
    simp only [DataW.trod, Try.underlying33] at h
    split at h
    all_goals first | (simp at h; done) | skip
    all_goals simp_all

theorem view_pairs {t e : TypeId} {f0 f1 : Field} {fuel : Nat} {a : Option Addr} {l c : Nat} {x : DataW H × List MemPlace} (ht : Try.prog.underlying t = some (.slice e)) (hc : Try.prog.cellsOf e = 2) (he : Try.prog.underlying e = some (.struct #[f0, f1]))
    (h0 : f0.type = 33 ∧ f0.offset = 0) (h1 : f1.type = 33 ∧ f1.offset = 1) (h : DataW.trod enc Try.prog w base spare held fuel t [.slice a l c] = some x) :
    (a = none → l = 0) ∧ ∃ R D : Nat → Nat, Pairs w a l R D := by
  rcases open_slice ht h with ⟨hcs, _⟩ | ⟨ad, len, cap, m, n, D, Pl, hcs, hb, hl, hm, hmm, _, hx⟩
  · simp at hcs
    obtain ⟨rfl, rfl, rfl⟩ := hcs
    exact ⟨fun _ => rfl, fun _ => 0, fun _ => 0, fun i hi => absurd hi (Nat.not_lt_zero _)⟩
  · simp at hcs
    obtain ⟨rfl, rfl, rfl⟩ := hcs
    have hlm : l ≤ m := by rw [hmm]; split <;> omega
    refine ⟨fun hno => (by simp at hno), ?_⟩
    obtain ⟨b, off, spot⟩ := ad
    have each : ∀ i, i < l → ∃ q : Nat × Nat, w.cell? ((⟨b, off, spot⟩ : Addr).add (i * 2)) = some (.float .f64 q.1) ∧ w.cell? (((⟨b, off, spot⟩ : Addr).add (i * 2)).add 1) = some (.float .f64 q.2) := by
      intro i hi
      obtain ⟨cs', hcells, htr⟩ := hx i (by omega)
      rw [hc] at hcells
      obtain ⟨_, hlen, hcell⟩ := World.cells?_some hcells
      obtain ⟨y0, y1, k, _, _, g0, g1⟩ := trod_struct2 he htr
      rw [h0.1, h0.2, cells33] at g0
      rw [h1.1, h1.2, cells33] at g1
      obtain ⟨r, hr⟩ := float_cell g0
      obtain ⟨d, hd⟩ := float_cell g1
      match cs', hlen with
      | [p, q], _ =>
        simp at hr hd
        subst hr hd
        refine ⟨(r, d), ?_, ?_⟩
        · have := hcell 0 (by omega)
          simpa [Addr.add] using this
        · have := hcell 1 (by omega)
          simpa using this
    obtain ⟨Q, hQ⟩ := choose_lt (α := Nat × Nat) each
    refine ⟨fun i => (Q i).1, fun i => (Q i).2, fun i hi => ?_⟩
    have hq0 := (hQ 0 (by omega)).1
    have hspot : spot = none := by simpa [Addr.add] using World.cell?_spot hq0
    subst hspot
    have hadd : ∀ j, (⟨b, off, none⟩ : Addr).add j = ⟨b, off + j, none⟩ := fun j => by unfold Addr.add; split <;> simp_all
    have hadd2 : ∀ o j, (⟨b, o, none⟩ : Addr).add j = ⟨b, o + j, none⟩ := fun o j => by unfold Addr.add; split <;> simp_all
    have := hQ i hi
    rw [hadd, hadd2] at this
    exact ⟨b, off, rfl, this.1, this.2⟩
end
end Go.Proofs.Qxb6609382a.W
