import Derived.Test.Qxb6609382aA
import Derived.BigRegion
import Derived.Deep.RegionHeld3
import Derived.Deep.AppendLies
import Derived.WalkSmall
import Derived.Deep.OwnRows
namespace Go.Proofs.Qxb6609382a.W
open Go.RowKit Go.Deep

/-- A float stored into a cell (the library has this law for integers, bools, pointers, slices, strings, interfaces, maps). -/
theorem run_store_float (P : Program) (w : World) (a : Addr) (m : Mode) (k : FloatKind) (n : Nat) : (store a (.float k n) m).run P w = stored P w a (.float k n) m := run_store P w a _ m rfl
attribute [local go_sem] run_store_float

/-! ### Rows -/

theorem lt_of_cell {w : World} {b o : Nat} {v : Value} (h : w.cell? ⟨b, o, none⟩ = some v) : b < w.heap.size := by
  rcases Nat.lt_or_ge b w.heap.size with h' | h'
  · exact h'
  · simp [World.cell?, Array.getElem?_eq_none h'] at h

theorem own_cell {w : World} {base : Nat} {e : TypeId} {size : Nat} {g n c : Nat} {xs : List Value} (h : w.ownsRow base e size (.slice (some ⟨g, 0, none⟩) n c) n xs) {j : Nat} {u : Value} (hj : xs[j]? = some u) : w.cell? ⟨g, j, none⟩ = some u := by
  have := h.cells (g := g) rfl j u hj
  cases j <;> simpa [Addr.add] using this

theorem own_mono {w : World} {base base' : Nat} {e : TypeId} {size : Nat} {v : Value} {n : Nat} {xs : List Value} (h : w.ownsRow base e size v n xs) (hb : base' ≤ base) : w.ownsRow base' e size v n xs := by
  refine ⟨h.1, ?_⟩
  rcases h.2 with h2 | ⟨g, cap, cur, hv, hg, r⟩
  · exact Or.inl h2
  · exact Or.inr ⟨g, cap, cur, hv, Nat.le_trans hb hg, r⟩

/-- A row of the call's own stays owned where its own block has not turned. -/
theorem own_block {w w' : World} {base : Nat} {e : TypeId} {size : Nat} {v : Value} {n : Nat} {xs : List Value} (h : w.ownsRow base e size v n xs) (hb : ∀ g, v.ownBlock = some g → w'.heap[g]? = w.heap[g]?) : w'.ownsRow base e size v n xs := by
  obtain ⟨h1, h2⟩ := h
  refine ⟨h1, ?_⟩
  rcases h2 with h2 | ⟨g, cap, cur, hv, hg, hh, r⟩
  · exact Or.inl h2
  · subst hv
    exact Or.inr ⟨g, cap, cur, rfl, hg, by rw [hb g rfl]; exact hh, r⟩

theorem flat_len {β : Type} (f : Nat → List β) (c : Nat) (hf : ∀ i, (f i).length = c) (n : Nat) : ((List.range n).flatMap f).length = n * c := by
  induction n with
  | zero => simp
  | succ n ih => rw [List.range_succ, List.flatMap_append]; simp [ih, hf]; rw [Nat.succ_mul]

theorem flat_at {β : Type} (f : Nat → List β) (c : Nat) (hf : ∀ i, (f i).length = c) (n k j : Nat) (hk : k < n) (hj : j < c) : ((List.range n).flatMap f)[k * c + j]? = (f k)[j]? := by
  induction n with
  | zero => omega
  | succ n ih =>
    rw [List.range_succ, List.flatMap_append]
    rcases Nat.lt_or_eq_of_le (Nat.le_of_lt_succ hk) with h | rfl
    · rw [List.getElem?_append_left, ih h]
      rw [flat_len f c hf]
      have : (k + 1) * c ≤ n * c := Nat.mul_le_mul_right c h
      rw [Nat.succ_mul] at this
      omega
    · rw [List.getElem?_append_right (by rw [flat_len f c hf]; omega), flat_len f c hf, Nat.add_sub_cancel_left]
      simp

/-- n places; n stars. -/
def placesL (R D : Nat → Nat) (n : Nat) : List Value := (List.range n).flatMap fun i => [.float .f64 (R i), .float .f64 (D i)]
def starL (r d : Nat) : List Value := [.float .f64 r, .float .f64 d, .float .f64 0, .float .f64 0, .float .f64 0, .float .f64 0, .float .f64 0, .float .f64 0]
def starsL (R D : Nat → Nat) (n : Nat) : List Value := (List.range n).flatMap fun i => starL (R i) (D i)

theorem placesL_succ (R D : Nat → Nat) (n : Nat) : placesL R D (n + 1) = placesL R D n ++ [.float .f64 (R n), .float .f64 (D n)] := by
  unfold placesL; rw [List.range_succ, List.flatMap_append]; simp
theorem starsL_succ (R D : Nat → Nat) (n : Nat) : starsL R D (n + 1) = starsL R D n ++ starL (R n) (D n) := by
  unfold starsL; rw [List.range_succ, List.flatMap_append]; simp
theorem placesL_at (R D : Nat → Nat) (n k j : Nat) (hk : k < n) (hj : j < 2) : (placesL R D n)[k * 2 + j]? = ([.float .f64 (R k), .float .f64 (D k)] : List Value)[j]? := flat_at _ 2 (fun _ => rfl) n k j hk hj
theorem starsL_at (R D : Nat → Nat) (n k j : Nat) (hk : k < n) (hj : j < 8) : (starsL R D n)[k * 8 + j]? = (starL (R k) (D k))[j]? := flat_at _ 8 (fun _ => rfl) n k j hk hj
theorem placesL_len (R D : Nat → Nat) (n : Nat) : (placesL R D n).length = n * 2 := flat_len _ 2 (fun _ => rfl) n

/-! ### The size checks -/
def IsB (e : Ending) : Prop := ∃ r, e = .returned (.bool r)
theorem isB (r : Bool) : IsB (.returned (.bool r)) := ⟨r, rfl⟩

theorem bytesE_any (a b : Option Addr) (n c m d : Nat) (w : World) : Calls Try.prog 5 #[.slice a n c, .slice b m d] w fun e w' => IsB e ∧ w' = w := by
  go_enter Try.func5, Try.ntmps5
  go_wp2
  all_goals (go_ret; exact ⟨isB _, rfl⟩)
theorem bytesS_any (a b z : Option Addr) (n c m d k l : Nat) (w : World) : Calls Try.prog 10 #[.slice a n c, .slice b m d, .slice z k l] w fun e w' => IsB e ∧ w' = w := by
  go_enter Try.func10, Try.ntmps10
  go_wp2
  all_goals (go_ret; exact ⟨isB _, rfl⟩)

/-! ### zzStarPlace -/
set_option maxHeartbeats 1000000 in
theorem starPlace_ok (g o x y : Nat) (w : World) (hn : nan y = false) (h0 : w.cell? ⟨g, o, none⟩ = some (.float .f64 x)) (h1 : w.cell? ⟨g, o + 1, none⟩ = some (.float .f64 y)) :
    Calls Try.prog 13 #[.pointer (some ⟨g, o, none⟩)] w fun e w' => e = .returned (.tuple #[.agg #[.float .f64 x, .float .f64 y], .nilIface]) ∧ Below w.heap.size w w' := by
  have hg := lt_of_cell h0
  unfold nan at hn
  go_enter Try.func13, Try.ntmps13
  go_wp2
  go_quiet (fail)
  go_wp2
  go_region
  go_wp2
  exact bodyPost_ret (v := .tuple #[.agg #[.float .f64 x, .float .f64 y], .nilIface]) (by simp [results, Try.results13, go_sem]) rfl ⟨rfl, by repeat (first | exact Below.refl _ _ | refine Below.setCell ?_ (by exact Nat.le_refl _) _ | refine below_drewN ?_ _ | refine Below.drew ?_ | refine Below.alloc ?_ (by simp) _)⟩

set_option maxHeartbeats 1000000 in
theorem starPlace_nan (g o y : Nat) (w : World) (hn : nan y = true) (h1 : w.cell? ⟨g, o + 1, none⟩ = some (.float .f64 y)) :
    Calls Try.prog 13 #[.pointer (some ⟨g, o, none⟩)] w fun e w' => ∃ a, e = .returned (.tuple #[.agg #[.float .f64 0, .float .f64 0], .iface 49 (.pointer (some a))]) ∧ Below w.heap.size w w' := by
  have hg := lt_of_cell h1
  unfold nan at hn
  go_enter Try.func13, Try.ntmps13
  go_wp2
  go_quiet (fail)
  go_wp2
  exact bodyPost_ret (v := .tuple #[.agg #[.float .f64 0, .float .f64 0], .iface 49 (.pointer (some ⟨w.heap.size + 1, 0, none⟩))]) (by simp [results, Try.results13, go_sem]) rfl ⟨_, rfl, by repeat (first | exact Below.refl _ _ | refine Below.setCell ?_ (by exact Nat.le_refl _) _ | refine below_drewN ?_ _ | refine Below.drew ?_ | refine Below.alloc ?_ (by simp) _)⟩
end Go.Proofs.Qxb6609382a.W
