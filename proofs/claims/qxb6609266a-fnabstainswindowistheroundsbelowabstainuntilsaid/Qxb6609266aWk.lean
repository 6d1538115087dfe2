import Derived.Test.Qxb6609266aRows
import Derived.WalkKit
import Derived.ProofKit
import Derived.OpenShut
import Derived.ShutString
import Derived.Outline
import Derived.Deep.QuietTactic
import Derived.BigQuiet
import Derived.Laws.Tables
namespace Go.Proofs.Qxb6609266a.AB
open Go.RowKit

theorem rep_ex (i u : Int) : ∃ cs : Array Value, Try.prog.built 66 [(1, .int .i64 i), (32, .int .u64 u)] = some cs ∧ cs[1]? = some (.int .i64 i) ∧ cs[32]? = some (.int .u64 u) := by
  have h : (Try.prog.built 66 [(1, .int .i64 i), (32, .int .u64 u)]).map (fun c => (c[1]?, c[32]?)) = some (some (.int .i64 i), some (.int .u64 u)) := by kernel_rfl
  obtain ⟨cs, h1, h2⟩ := Option.map_eq_some_iff.1 h
  simp only [Prod.mk.injEq] at h2
  exact ⟨cs, h1, h2.1, h2.2⟩

theorem step_ex (x : Bool) : ∃ cs : Array Value, Try.prog.built 81 [(5, .bool x)] = some cs ∧ cs[70]? = some (.bool x) := by
  have h : (Try.prog.built 81 [(5, .bool x)]).map (fun c => c[70]?) = some (some (.bool x)) := by kernel_rfl
  obtain ⟨cs, h1, h2⟩ := Option.map_eq_some_iff.1 h
  exact ⟨cs, h1, h2⟩

theorem wpList_build2 {P : Program} (w : World) {ops : Array Oper} {rest : List Oper} {o : Oper} {a : Act} {Q : Exit → Act → World → Prop}
    (hg : o.guard = none) (t : TypeId) (i1 i2 : Nat) (o1 o2 : Operand) (hop : o.op = Op.build t #[(i1, o1), (i2, o2)]) (v1 v2 : Value) (h1 : a.eval o1 = v1) (h2 : a.eval o2 = v2) (cells : Array Value)
    (hb : P.built t [(i1, v1), (i2, v2)] = some cells)
    (hK : wpList P ops Q rest (a.put o.dst (.agg cells)) w) : wpList P ops Q (o :: rest) a w := by
  refine wpList_plain hg fun K hK' => ?_
  have hrun := run_build (P := P) w t #[(i1, v1), (i2, v2)] cells hb
  unfold Oper.wp
  simp only [execOp, hop, List.map_toArray, List.map_cons, List.map_nil, h1, h2, Sem.run_bind, hrun, Result.andThen_ok]
  exact hK' _ _ hK

theorem wpList_build1 {P : Program} (w : World) {ops : Array Oper} {rest : List Oper} {o : Oper} {a : Act} {Q : Exit → Act → World → Prop}
    (hg : o.guard = none) (t : TypeId) (i1 : Nat) (o1 : Operand) (hop : o.op = Op.build t #[(i1, o1)]) (v1 : Value) (h1 : a.eval o1 = v1) (cells : Array Value)
    (hb : P.built t [(i1, v1)] = some cells)
    (hK : wpList P ops Q rest (a.put o.dst (.agg cells)) w) : wpList P ops Q (o :: rest) a w := by
  refine wpList_plain hg fun K hK' => ?_
  have hrun := run_build (P := P) w t #[(i1, v1)] cells hb
  unfold Oper.wp
  simp only [execOp, hop, List.map_toArray, List.map_cons, List.map_nil, h1, Sem.run_bind, hrun, Result.andThen_ok]
  exact hK' _ _ hK

theorem grown_trans {a b c : World} (h : Grown a b) (k : Grown b c) : Grown a c :=
  ⟨World.keptBut_trans h.1 k.1, fun x => (k.2.1 x).trans (h.2.1 x), Nat.le_trans h.2.2 k.2.2⟩

theorem cellA {w : World} {cs ds : Array Value} {t t2 : TypeId} {o : Obj} {j : Nat} {v : Value} (h : cs[j]? = some v) : (((w.alloc (.cells cs t)).alloc (.cells ds t2)).alloc o).cell? ⟨w.heap.size, j, none⟩ = some v := by
  rw [World.cell?_alloc_past _ _ _ (by simp; omega), World.cell?_alloc_past _ _ _ (by simp), World.cell?_alloc_at _ _ _ _ rfl, h]
theorem cellB {w : World} {cs ds : Array Value} {t t2 : TypeId} {o : Obj} {j : Nat} {v : Value} (h : ds[j]? = some v) : (((w.alloc (.cells cs t)).alloc (.cells ds t2)).alloc o).cell? ⟨w.heap.size + 1, j, none⟩ = some v := by
  rw [World.cell?_alloc_past _ _ _ (by simp), World.cell?_alloc_at _ _ _ _ (by simp), h]

/-- What 'abstains' answers. -/
def ab (i u r c : Int) (x : Bool) : Bool := x || (c != i && decide (r < u))

set_option maxHeartbeats 1000000 in
set_option maxRecDepth 100000 in
theorem abst5 (i u r c : Int) (x : Bool) (b b2 : Nat) (w : World) (hx : ∀ o, (w.alloc o).cell? ⟨b2, 70, none⟩ = some (.bool x)) (hi : ∀ o, (w.alloc o).cell? ⟨b, 1, none⟩ = some (.int .i64 i)) (hu : ∀ o, (w.alloc o).cell? ⟨b, 32, none⟩ = some (.int .u64 u)) :
    Calls Try.prog 5 #[.pointer (some ⟨b, 0, none⟩), .agg #[.int .u64 r, .int .i64 c], .pointer (some ⟨b2, 0, none⟩)] w fun e w' => e = .returned (.bool (ab i u r c x)) ∧ Grown w w' := by
  cases x
  · by_cases hci : c = i
    · subst hci
      have hd : (c != c) = false := by simp
      go_enter Try.func5, Try.ntmps5
      go_wp2_with fail
      go_quiet (fail)
      go_wp2
      go_ret
      exact ⟨by simp [ab], by repeat (first | exact Grown.refl _ | apply Grown.drew | apply Grown.alloc)⟩
    · have hd : (c != i) = true := by simpa using hci
      go_enter Try.func5, Try.ntmps5
      go_wp2_with fail
      go_quiet (fail)
      go_wp2
      go_ret
      exact ⟨by simp [ab, hci], by repeat (first | exact Grown.refl _ | apply Grown.drew | apply Grown.alloc)⟩
  · go_enter Try.func5, Try.ntmps5
    go_wp2_with fail
    go_quiet (fail)
    go_wp2
    go_ret
    exact ⟨by simp [ab], by repeat (first | exact Grown.refl _ | apply Grown.drew | apply Grown.alloc)⟩

set_option maxHeartbeats 1000000 in
set_option maxRecDepth 100000 in
theorem abst4 (i u r c : Int) (x : Bool) (w : World) :
    Calls Try.prog 4 #[.int .i64 i, .int .u64 u, .int .u64 r, .int .i64 c, .bool x] w fun e w' => e = .returned (.bool (ab i u r c x)) ∧ Grown w w' := by
  obtain ⟨cs, hcs, hc1, hc32⟩ := rep_ex i u
  have Hcs : Hid (Try.prog.built 66 [(1, .int .i64 i), (32, .int .u64 u)] = some cs) := hcs
  obtain ⟨ds, hds, hd70⟩ := step_ex x
  have Hds : Hid (Try.prog.built 81 [(5, .bool x)] = some ds) := hds
  clear hcs hds
  have h5 := abst5 i u r c x w.heap.size (w.heap.size + 1) ((w.alloc (.cells cs 66)).alloc (.cells ds 81)) (fun _ => cellB hd70) (fun _ => cellA hc1) (fun _ => cellA hc32)
  clear hc1 hc32 hd70
  go_enter Try.func4, Try.ntmps4
  go_wp2_with (first | (refine wpList_build2 _ rfl 66 1 32 (.tmp 12) (.tmp 13) rfl (.int .i64 i) (.int .u64 u) rfl rfl cs Hcs.out ?_) | (refine wpList_build1 _ rfl 81 5 (.tmp 20) rfl (.bool x) rfl ds Hds.out ?_) | (go_at_call 5; refine h5.mono ?_; rintro e w' ⟨rfl, hg⟩))
  go_ret
  exact ⟨rfl, grown_trans (((Grown.refl w).alloc _ _).alloc _ _) hg⟩
end Go.Proofs.Qxb6609266a.AB
