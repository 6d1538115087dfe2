import Derived.Test.Qxb6609364aD
import Derived.Deep.DeepCutAuto
import Derived.Deep.OwnRows
import Derived.WalkSmall
import Derived.LaidEql
namespace Go.Proofs.Qxb6609364a.W
open Go.RowKit Go.Deep

theorem Try.info4 : (Try.prog.info? 4).map (fun i => (i.zero, i.size, i.bytes)) = some (some (.bool false), 1, 1) := by kernel_rfl
theorem Try.info9 : (Try.prog.info? 9).map (fun i => (i.zero, i.size, i.bytes)) = some (some (.string ByteArray.empty), 1, 16) := by kernel_rfl
theorem Try.size4 : (Try.prog.info? 4).map (·.size) = some 1 := by kernel_rfl
theorem Try.size9 : (Try.prog.info? 9).map (·.size) = some 1 := by kernel_rfl

theorem Cells.below {w w' : World} {a : Option Addr} {n : Nat} {f : Nat → Value} (h : Cells w a n f) (hb : Below w.heap.size w w') : Cells w' a n f := fun i hi => by
  obtain ⟨b, off, ha, hc⟩ := h i hi
  exact ⟨b, off, ha, by rw [hb.cell (by exact lt_of_cell hc)]; exact hc⟩

theorem cells_copied {w : World} {g n : Nat} {f : Nat → Value} {cur : List Value} {t : TypeId} (hl : cur.length = n) (h : w.heap[g]? = some (.cells (splice cur 0 ((List.range n).map f)).toArray t (0, 0))) : Cells w (some ⟨g, 0, none⟩) n f := fun i hi => by
  refine ⟨g, 0, rfl, ?_⟩
  have e : splice cur 0 ((List.range n).map f) = (List.range n).map f := by simp [splice, ← hl]
  rw [e] at h
  simp [World.cell?, h, hi]

theorem src_alloc {w : World} {b off n : Nat} {f : Nat → Value} {o : Obj} (h : Cells w (some ⟨b, off, none⟩) n f) : ∀ j x, (List.range n)[j]? = some x → (w.alloc o).cell? ((⟨b, off, none⟩ : Addr).add j) = some (f x) := by
  intro j x hj
  have hjn : j < n := by
    rcases Nat.lt_or_ge j n with h' | h'
    · exact h'
    · simp [List.getElem?_eq_none (l := List.range n) (by simpa using h')] at hj
  simp [hjn] at hj
  subst hj
  obtain ⟨b', o', he, hc⟩ := h j hjn
  simp only [Option.some.injEq, Addr.mk.injEq] at he
  obtain ⟨rfl, rfl, _⟩ := he
  have : (⟨b, off, none⟩ : Addr).add j = ⟨b, off + j, none⟩ := by unfold Addr.add; split <;> simp_all
  rw [this, World.cell?_alloc_past _ _ _ (lt_of_cell hc), hc]

theorem lt_of_some {w : World} {a : Addr} {v : Value} (h : w.cell? a = some v) : a.block < w.heap.size := by
  rcases Nat.lt_or_ge a.block w.heap.size with h' | h'
  · exact h'
  · simp [World.cell?, Array.getElem?_eq_none h'] at h

/-- What lets the pattern's parts lie inside the six of an ARN. -/
def Good (n : Nat) (fi : Int) : Prop := n ≤ 6 ∧ (0 < n → 0 ≤ fi ∧ fi + n ≤ 6)

/-- What 'next' holds ahead of part k. -/
def nextAt (fi : Int) (n k : Nat) : Int := if k = n ∧ 0 < n then 6 else fi + k
theorem nextAt_lt (fi : Int) (n k : Nat) (h : k < n) : nextAt fi n k = fi + k := by unfold nextAt; rw [if_neg (by omega)]
theorem nextAt_end (fi : Int) (n : Nat) (h : 0 < n) : nextAt fi n n = 6 := by unfold nextAt; rw [if_pos ⟨rfl, h⟩]

theorem hd_at (F P : Nat → Bool) (T : Nat → ByteArray) (CP : Nat → Option Addr) (S : Nat → Int) (s : ByteArray) (n k j : Nat) (hk : k < n) (hj : j < 5) : (partL false true s none 6 ++ partsL F P T CP S n)[(1 + k) * 5 + j]? = (partL (F k) (P k) (T k) (CP k) (S k))[j]? := by
  have e : (partL false true s none 6).length = 5 := rfl
  rw [List.getElem?_append_right (by rw [e]; omega), e, ← partsL_at F P T CP S n k j hk hj]
  congr 1
  omega

theorem cell_in {w w' : World} {b o : Nat} {v : Value} (hb : Below w.heap.size w w') (h : w.cell? ⟨b, o, none⟩ = some v) : w'.cell? ⟨b, o, none⟩ = some v := by
  rw [hb.cell (by exact lt_of_cell h)]; exact h

theorem neq_ptr_same {P : Program} (w : World) {t te : TypeId} {j : TypeInfo} (p : Option Addr) (hp : P.underlying t = some (.pointer te)) (hte : P.info? te = some j) :
    (binOp .neq t (.pointer p) (.pointer p)).run P w = .ok (.bool false) w := by
  have h : ∀ d : Nat, (Op.equalIn (d + 1) t (.pointer p) (.pointer p)).run P w = .ok true w := fun d => by
    cases p <;> simp [Op.equalIn, run_underlying hp, sizeOf, typeInfo, run_sameAddr_same, hte]
  simp only [binOp]
  simp [Op.equal, Op.maxDepth, h 9999]
theorem neq35 (p : Option Addr) (w : World) : (binOp .neq 35 (.pointer p) (.pointer p)).run Try.prog w = .ok (.bool false) w := by
  have h : (Try.prog.info? 53).isSome = true := by kernel_rfl
  obtain ⟨j, hj⟩ := Option.isSome_iff_exists.1 h
  exact neq_ptr_same w p Try.underlying35 hj

/-- The code behind region n. -/
def afterRegion (n : Nat) : Code → Option Code
  | .seq (.region id _ _) b => if id = n then some b else afterRegion n b
  | .seq a b => match afterRegion n a with
    | some c => some c
    | none => afterRegion n b
  | .block _ c => afterRegion n c
  | .scope c => afterRegion n c
  | _ => none

end Go.Proofs.Qxb6609364a.W
