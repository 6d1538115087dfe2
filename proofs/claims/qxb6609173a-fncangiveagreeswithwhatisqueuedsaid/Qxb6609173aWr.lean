import Derived.Test.Qxb6609173aWk
namespace Go.Proofs.Qxb6609173a.CG
open Go.RowKit Go.Deep

theorem Try.info29 : (Try.prog.info? 29).map (fun i => (i.zero, i.size, i.bytes)) = some (some (.pointer none), 1, 8) := by kernel_rfl

theorem mask_lt (k s : Nat) (hk : k ≤ 65536) (h1 : 1 ≤ s) (h2 : s ≤ 131072) : ∃ j : Nat, j < s ∧ bits BinOp.and IntKind.i64 (k : Int) ((s : Int) - 1) = (j : Int) := by
  refine ⟨k &&& (s - 1), ?_, ?_⟩
  · have := @Nat.and_le_right k (s - 1); omega
  · have e : ((s : Int) - 1) = ((s - 1 : Nat) : Int) := by omega
    rw [e]
    exact (bits_nat .i64 63 (by decide) (fun n h0 h => by rw [IntKind.wrap_i64]; omega) k (s - 1) (by omega) (by omega)).1

theorem blk_cell {w : World} {b : Nat} {cs : Array Value} {t : TypeId} (h : w.heap[b]? = some (.cells cs t (0, 0))) (j : Nat) (hj : j < cs.size) : ∃ v, w.cell? ⟨b, j, none⟩ = some v ∧ w.frozen? ⟨b, j, none⟩ = false :=
  ⟨cs[j], by simp [World.cell?, h, hj], by simp [World.frozen?, h]⟩

theorem blk_set {w : World} {b j : Nat} {cs : Array Value} {t : TypeId} (h : w.heap[b]? = some (.cells cs t (0, 0))) (u : Value) :
    ∃ cs' : Array Value, cs'.size = cs.size ∧ (w.setCell ⟨b, j, none⟩ u).heap[b]? = some (.cells cs' t (0, 0)) := by
  have hlt := lt_of_block h
  have h' : w.heap[b] = .cells cs t (0, 0) := by simpa [Array.getElem?_eq_getElem hlt] using h
  refine ⟨cs.setIfInBounds j u, by simp, ?_⟩
  show (w.heap.modify b _)[b]? = _
  rw [Array.getElem?_eq_getElem (by simpa using hlt), Array.getElem_modify_self, h']
  rfl

theorem buildRing_any (q : Nat) (s : Nat) (hasNext : Bool) (w : World) (h1 : q ≤ 65536) (hs1 : 1 ≤ s) (hs2 : s ≤ 131072) :
    Calls Try.prog 4 #[.int .i64 q, .int .i64 0, .int .i64 s, .bool hasNext] w fun e w' => ∃ b : Nat, ∃ nx : Option Addr, e = .returned (.pointer (some ⟨b, 0, none⟩)) ∧ nx.isSome = hasNext ∧ w'.cell? ⟨b, 6, none⟩ = some (.int .i64 q) ∧ w'.cell? ⟨b, 3, none⟩ = some (.pointer nx) ∧ Grown w w' := by
  have hmk := run_make_row' (P := Try.prog) 28 29 (.pointer none) 8 Try.underlying28 Try.info29 rfl .i64 .i64 s (by omega) (by omega)
  go_enter Try.func4, Try.ntmps4
  go_wp2
  go_loopw [10] (fun i wr => ∃ k : Nat, k ≤ q ∧ i = .int .i64 k ∧ (∃ cs : Array Value, cs.size = s ∧ wr.heap[w.heap.size]? = some (.cells cs 29 (0, 0))) ∧ Grown w wr) (fun i _ => q - (intOf i).toNat)
  case atStart =>
    exact ⟨0, Nat.zero_le _, rfl, ⟨madeCells #[Value.pointer none] s, size_madeCells _ _, heap_alloc_new _ _⟩, (Grown.refl w).alloc _ _⟩
  case round =>
    obtain ⟨k, hk, rfl, ⟨cs, hcs, hb⟩, hg⟩ := hrel
    by_cases hlt : k < q
    · obtain ⟨j, hj, hbits⟩ := mask_lt k s (by omega) hs1 hs2
      have hbA : ∀ c : Array Value, (wr.alloc (.cells c 37)).heap[w.heap.size]? = some (.cells cs 29 (0, 0)) := fun c => by
        rw [Below.heap_alloc _ _ _ (lt_of_block hb)]; exact hb
      have HB : Hid (∀ c : Array Value, (wr.alloc (.cells c 37)).heap[w.heap.size]? = some (.cells cs 29 (0, 0))) := hbA
      have hcell : ∃ v, ∀ c : Array Value, (wr.alloc (.cells c 37)).cell? ⟨w.heap.size, j, none⟩ = some v := ⟨cs[j], fun c => by simp [World.cell?, hbA c]⟩
      have hfrz : ∀ c : Array Value, (wr.alloc (.cells c 37)).frozen? ⟨w.heap.size, j, none⟩ = false := fun c => by simp [World.frozen?, hbA c]
      obtain ⟨v0, hcell⟩ := hcell
      clear hb hbA
      go_wp2_with (first | (go_at_call 8; refine (newG_any _ _ _).mono ?_; rintro e w' ⟨rfl, c, rfl⟩) | fail)
      go_roundw
      case rel =>
        obtain ⟨cs', h1', h2'⟩ := blk_set (j := j) (HB.out c) (Value.pointer (some { block := wr.heap.size, off := 0 }))
        exact ⟨k + 1, by omega, by go_num, ⟨cs', by omega, h2'⟩, (hg.alloc _ _).setCell (Nat.le_refl _) _⟩
      case measure => simp [intOf]; omega
    · cases hasNext
      · go_wp2_with (first | (go_at_call 8; refine (newG_any _ _ _).mono ?_; rintro e w' ⟨rfl, c, rfl⟩) | (go_at_call 9; refine (newProc_any _ _ _ _ _ _ _).mono ?_; rintro e w' ⟨rfl, c2, h3, h6, rfl⟩))
        go_ret
        exact ⟨wr.heap.size, none, rfl, rfl, by simp [h6], by simp [h3], hg.alloc _ _⟩
      · go_wp2_with (first | (go_at_call 8; refine (newG_any _ _ _).mono ?_; rintro e w' ⟨rfl, c, rfl⟩) | (go_at_call 9; refine (newProc_any _ _ _ _ _ _ _).mono ?_; rintro e w' ⟨rfl, c2, h3, h6, rfl⟩))
        go_ret
        exact ⟨wr.heap.size + 1, some ⟨wr.heap.size, 0, none⟩, rfl, rfl, by simp [h6], by simp [h3], (hg.alloc _ _).alloc _ _⟩
end Go.Proofs.Qxb6609173a.CG
