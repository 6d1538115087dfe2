import Derived.Test.Qxb6609364aH
import Derived.ProofKit
import Derived.OpenShut
import Derived.ShutString
import Derived.ChangeOld
import Derived.Below
import Derived.Deep.Grids
import Derived.Deep.Strs
namespace Go.Proofs.Qxb6609364a.W
open Go.ChangeShapes Go.WideShapes Go.ChangeAt Go.RowKit Go.Deep

section
variable {H : Type} {enc : TypeId × Value → H} {w : World} {base : Nat} {spare : Nat → Bool} {held : Bool}

/-- A slice that is read, whose elements are one cell each: its cells, and each cell's own reading. -/
theorem view1 {t e : TypeId} {fuel : Nat} {a : Option Addr} {l c : Nat} {x : DataW H × List MemPlace} (ht : Try.prog.underlying t = some (.slice e)) (hc : Try.prog.cellsOf e = 1) (h : DataW.trod enc Try.prog w base spare held fuel t [.slice a l c] = some x) :
    l ≤ maxLen ∧ ∃ V : Nat → Value, Cells w a l V ∧ ∀ i, i < l → ∃ n y, DataW.trod enc Try.prog w base spare held n e [V i] = some y := by
  rcases open_slice1 ht hc h with ⟨h0, _⟩ | ⟨ad, len, cap, m, n, V, D, Pl, h0, hb, hl, hm, hmm, _, hx⟩
  · simp at h0
    obtain ⟨rfl, rfl, rfl⟩ := h0
    exact ⟨Nat.zero_le _, fun _ => .nilIface, fun i hi => absurd hi (Nat.not_lt_zero _), fun i hi => absurd hi (Nat.not_lt_zero _)⟩
  · simp at h0
    obtain ⟨rfl, rfl, rfl⟩ := h0
    have hlm : l ≤ m := by rw [hmm]; split <;> omega
    refine ⟨by omega, V, fun i hi => ?_, fun i hi => ⟨n, _, (hx i (by omega)).2⟩⟩
    obtain ⟨b, off, spot⟩ := ad
    have h00 := (hx 0 (by omega)).1
    have hspot : spot = none := by simpa [Addr.add] using World.cell?_spot h00
    subst hspot
    refine ⟨b, off, rfl, ?_⟩
    have hadd : (⟨b, off, none⟩ : Addr).add i = ⟨b, off + i, none⟩ := by unfold Addr.add; split <;> simp_all
    rw [← hadd]
    exact (hx i (by omega)).1

theorem Cells.congr {a : Option Addr} {n : Nat} {f g : Nat → Value} (h : Cells w a n f) (hfg : ∀ i, i < n → f i = g i) : Cells w a n g := fun i hi => by
  obtain ⟨b, off, ha, hc⟩ := h i hi
  exact ⟨b, off, ha, by rw [hc, hfg i hi]⟩

theorem view_bools {t e : TypeId} {fuel : Nat} {a : Option Addr} {l c : Nat} {x : DataW H × List MemPlace} (ht : Try.prog.underlying t = some (.slice e)) (hc : Try.prog.cellsOf e = 1) (he : Try.prog.underlying e = some .bool) (h : DataW.trod enc Try.prog w base spare held fuel t [.slice a l c] = some x) :
    ∃ F : Nat → Bool, Cells w a l (fun i => .bool (F i)) := by
  obtain ⟨_, V, hV, hr⟩ := view1 ht hc h
  obtain ⟨F, hF⟩ := choose_lt (α := Bool) (p := fun i b => V i = .bool b) (fun i hi => by
    obtain ⟨n, y, hy⟩ := hr i hi
    obtain ⟨b, h1, _⟩ := DataW.trod_bool he hy
    exact ⟨b, by simpa using h1⟩)
  exact ⟨F, hV.congr hF⟩

theorem view_strs {t e : TypeId} {fuel : Nat} {a : Option Addr} {l c : Nat} {x : DataW H × List MemPlace} (ht : Try.prog.underlying t = some (.slice e)) (hc : Try.prog.cellsOf e = 1) (he : Try.prog.underlying e = some .string) (h : DataW.trod enc Try.prog w base spare held fuel t [.slice a l c] = some x) :
    l ≤ maxLen ∧ ∃ T : Nat → ByteArray, Cells w a l (fun i => .string (T i)) := by
  obtain ⟨hm, V, hV, hr⟩ := view1 ht hc h
  obtain ⟨F, hF⟩ := choose_lt (α := ByteArray) (p := fun i b => V i = .string b) (fun i hi => by
    obtain ⟨n, y, hy⟩ := hr i hi
    obtain ⟨b, h1, _⟩ := DataW.trod_string he hy
    exact ⟨b, by simpa using h1⟩)
  exact ⟨hm, F, hV.congr hF⟩

theorem slice_cell {t e : TypeId} {fuel : Nat} {v : Value} {x : DataW H × List MemPlace} (ht : Try.prog.underlying t = some (.slice e)) (h : DataW.trod enc Try.prog w base spare held fuel t [v] = some x) : ∃ q : Option Addr × Nat × Nat, v = .slice q.1 q.2.1 q.2.2 := by
  rcases open_slice ht h with ⟨h0, _⟩ | ⟨ad, len, cap, m, n, D, Pl, h0, _⟩
  · simp at h0; exact ⟨(none, 0, 0), h0⟩
  · simp at h0; exact ⟨(some ad, len, cap), h0⟩

/-- A slice of slices. -/
theorem view_slices {t e q : TypeId} {fuel : Nat} {a : Option Addr} {l c : Nat} {x : DataW H × List MemPlace} (ht : Try.prog.underlying t = some (.slice e)) (hc : Try.prog.cellsOf e = 1) (he : Try.prog.underlying e = some (.slice q)) (h : DataW.trod enc Try.prog w base spare held fuel t [.slice a l c] = some x) :
    l ≤ maxLen ∧ ∃ (A : Nat → Option Addr) (L C : Nat → Nat), Cells w a l (fun i => .slice (A i) (L i) (C i)) ∧ ∀ i, i < l → ∃ n y, DataW.trod enc Try.prog w base spare held n e [.slice (A i) (L i) (C i)] = some y := by
  obtain ⟨hm, V, hV, hr⟩ := view1 ht hc h
  obtain ⟨Q, hQ⟩ := choose_lt (α := Option Addr × Nat × Nat) (p := fun i q => V i = .slice q.1 q.2.1 q.2.2) (fun i hi => by
    obtain ⟨n, y, hy⟩ := hr i hi
    exact slice_cell he hy)
  refine ⟨hm, fun i => (Q i).1, fun i => (Q i).2.1, fun i => (Q i).2.2, hV.congr hQ, fun i hi => ?_⟩
  obtain ⟨n, y, hy⟩ := hr i hi
  rw [hQ i hi] at hy
  exact ⟨n, y, hy⟩

/-- A slice of slices of slices, down to the second. -/
theorem view_deep {t e q r : TypeId} {fuel : Nat} {a : Option Addr} {l c : Nat} {x : DataW H × List MemPlace} (ht : Try.prog.underlying t = some (.slice e)) (hc : Try.prog.cellsOf e = 1) (he : Try.prog.underlying e = some (.slice q)) (hq : Try.prog.cellsOf q = 1) (hr : Try.prog.underlying q = some (.slice r)) (h : DataW.trod enc Try.prog w base spare held fuel t [.slice a l c] = some x) :
    l ≤ maxLen ∧ ∃ (A : Nat → Option Addr) (L C : Nat → Nat) (A2 : Nat → Nat → Option Addr) (L2 C2 : Nat → Nat → Nat), Cells w a l (fun i => .slice (A i) (L i) (C i)) ∧ (∀ i, i < l → Cells w (A i) (L i) (fun j => .slice (A2 i j) (L2 i j) (C2 i j))) ∧ ∀ i, i < l → L i ≤ maxLen := by
  obtain ⟨hm, A, L, C, hV, hd⟩ := view_slices ht hc he h
  have each : ∀ i, i < l → L i ≤ maxLen ∧ ∃ z : (Nat → Option Addr) × (Nat → Nat) × (Nat → Nat), Cells w (A i) (L i) (fun j => .slice (z.1 j) (z.2.1 j) (z.2.2 j)) := fun i hi => by
    obtain ⟨n, y, hy⟩ := hd i hi
    obtain ⟨hm2, A2, L2, C2, h2, _⟩ := view_slices he hq hr hy
    exact ⟨hm2, (A2, L2, C2), h2⟩
  obtain ⟨Z, hZ⟩ := choose_lt (α := (Nat → Option Addr) × (Nat → Nat) × (Nat → Nat)) (p := fun i z => Cells w (A i) (L i) (fun j => .slice (z.1 j) (z.2.1 j) (z.2.2 j))) (fun i hi => (each i hi).2)
  exact ⟨hm, A, L, C, fun i => (Z i).1, fun i => (Z i).2.1, fun i => (Z i).2.2, hV, hZ, fun i hi => (each i hi).1⟩
end
end Go.Proofs.Qxb6609364a.W
