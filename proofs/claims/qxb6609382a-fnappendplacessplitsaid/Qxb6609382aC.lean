import Derived.Test.Qxb6609382aB
namespace Go.Proofs.Qxb6609382a.W
open Go.RowKit Go.Deep
attribute [local go_sem] run_store_float

/-! ### 'w is w0 but for one row and new blocks' -/
theorem gb_refl (w : World) (row : Option Nat) : w.grownBy w row := ⟨rfl, rfl, rfl, Nat.le_refl _, fun _ _ _ => rfl⟩
theorem gb_alloc {w a : World} {row : Option Nat} (h : w.grownBy a row) (o : Obj) : w.grownBy (a.alloc o) row :=
  ⟨h.os, h.tape, h.output, by have := h.size; simp; omega, fun k hk hne => by rw [Below.heap_alloc _ _ _ (Nat.lt_of_lt_of_le hk h.size)]; exact h.block k hk hne⟩
theorem gb_setCell {w a : World} {row : Option Nat} (h : w.grownBy a row) {p : Addr} (hp : w.heap.size ≤ p.block) (u : Value) : w.grownBy (a.setCell p u) row :=
  ⟨h.os, h.tape, h.output, by have := h.size; simpa [World.setCell] using this, fun k hk hne => by rw [Below.heap_setCell _ _ _ _ (by omega)]; exact h.block k hk hne⟩
theorem gb_drew {w a : World} {row : Option Nat} (h : w.grownBy a row) : w.grownBy a.drew row := ⟨h.os, h.tape, h.output, h.size, h.block⟩
theorem gb_drewN {w a : World} {row : Option Nat} (h : w.grownBy a row) (n : Nat) : w.grownBy (a.drewN n) row := ⟨h.os, h.tape, h.output, h.size, h.block⟩
theorem gb_of_drew {w a : World} {row : Option Nat} (h : w.drew.grownBy a row) : w.grownBy a row := ⟨h.os, h.tape, h.output, h.size, h.block⟩
theorem gb_below {w a b : World} {row : Option Nat} (h : w.grownBy a row) (hb : Below a.heap.size a b) : w.grownBy b row :=
  ⟨hb.os.trans h.os, hb.tape.trans h.tape, hb.output.trans h.output, Nat.le_trans h.size hb.size, fun k hk hne => (hb.block k (Nat.lt_of_lt_of_le hk h.size)).trans (h.block k hk hne)⟩
theorem gb_step {w a b : World} {row row' : Option Nat} (h : w.grownBy a row) (k : a.grownBy b row') (hr : row' = row ∨ ∀ g, row' = some g → w.heap.size ≤ g) : w.grownBy b row :=
  ⟨k.os.trans h.os, k.tape.trans h.tape, k.output.trans h.output, Nat.le_trans h.size k.size, fun i hi hne => by
    refine (k.block i (Nat.lt_of_lt_of_le hi h.size) ?_).trans (h.block i hi hne)
    rcases hr with rfl | hr
    · exact hne
    · intro he
      have := hr i he.symm
      omega⟩
theorem gb_to_below {w a : World} {row : Option Nat} {B : Nat} (h : w.grownBy a row) (hB : B ≤ w.heap.size) (hr : ∀ g, row = some g → B ≤ g) : Below B w a := (Below.refl B w).grown h hB hr
theorem gb_cell {w a : World} {row : Option Nat} {b o : Nat} (h : w.grownBy a row) (hb : b < w.heap.size) (hne : row ≠ some b) : a.cell? ⟨b, o, none⟩ = w.cell? ⟨b, o, none⟩ := h.cell_far ⟨b, o, none⟩ hb (fun e => hne e.symm)
/-- Another row of the call's own is kept. -/
theorem gb_own {w a : World} {row : Option Nat} {base : Nat} {e : TypeId} {size : Nat} {v : Value} {n : Nat} {xs : List Value} (h : w.grownBy a row) (ho : w.ownsRow base e size v n xs) (hne : v.ownBlock = none ∨ v.ownBlock ≠ row) : a.ownsRow base e size v n xs := ho.kept h hne

/-- Where a value's own row lies: as before, or in new memory. -/
def Lies (w : World) (v v' : Value) : Prop := v'.ownBlock = v.ownBlock ∨ ∀ g, v'.ownBlock = some g → w.heap.size ≤ g
theorem Lies.refl (w : World) (v : Value) : Lies w v v := Or.inl rfl
theorem Lies.row {w : World} {v v' : Value} (h : Lies w v v') : v'.ownBlock = v.ownBlock ∨ ∀ g, v'.ownBlock = some g → w.heap.size ≤ g := h
theorem Lies.step {w a : World} {v v' : Value} {g n c : Nat} (h : Lies w v v') (hs : w.heap.size ≤ a.heap.size) (hl : v'.ownBlock = some g ∨ g = a.heap.size) : Lies w v (.slice (some ⟨g, 0, none⟩) n c) := by
  rcases hl with hl | hl
  · rcases h with h | h
    · exact Or.inl (by rw [← h, hl]; rfl)
    · exact Or.inr (fun k hk => by simp [Value.ownBlock] at hk; subst hk; exact h _ hl)
  · exact Or.inr (fun k hk => by simp [Value.ownBlock] at hk; omega)

theorem Try.info58 : (Try.prog.info? 58).map (fun i => (i.zero, i.size, i.bytes)) = some (some (.agg #[.float .f64 0, .float .f64 0, .float .f64 0, .float .f64 0, .float .f64 0, .float .f64 0, .float .f64 0, .float .f64 0]), 8, 64) := by kernel_rfl
theorem Try.info39 : (Try.prog.info? 39).map (fun i => (i.zero, i.size, i.bytes)) = some (some (.agg #[.float .f64 0, .float .f64 0]), 2, 16) := by kernel_rfl

theorem starL_one {r d : Nat} : ∀ u ∈ starL r d, u.oneCell' = true := by
  intro u hu
  simp [starL] at hu
  rcases hu with rfl | rfl | rfl <;> rfl
theorem starL_cell {w : World} {r d : Nat} {ty : TypeId} {n : Nat} (hn : n = w.heap.size) : ∀ j u, (starL r d)[j]? = some u → (w.alloc (.cells #[.float .f64 r, .float .f64 d, .float .f64 0, .float .f64 0, .float .f64 0, .float .f64 0, .float .f64 0, .float .f64 0] ty)).cell? ((⟨n, 0, none⟩ : Addr).add j) = some u := by
  intro j u hu
  have : (w.alloc (.cells #[.float .f64 r, .float .f64 d, .float .f64 0, .float .f64 0, .float .f64 0, .float .f64 0, .float .f64 0, .float .f64 0] ty)).cell? ⟨n, j, none⟩ = some u := by
    rw [World.cell?_alloc_at _ _ _ _ hn]
    simpa [starL] using hu
  cases j <;> simpa [Addr.add] using this

/-- What stands in the two boxes behind the append. -/
theorem boxes {w w1 : World} {v : Value} {o1 o2 : Value} {o3 : Obj} {t1 t2 : TypeId} (hlt : ∀ k, v.ownBlock = some k → k < w.heap.size)
    (h : (((w.alloc (.cells #[o1] t1)).alloc (.cells #[o2] t2)).alloc o3).grownBy w1 v.ownBlock) :
    w1.cell? ⟨w.heap.size, 0, none⟩ = some o1 ∧ w1.frozen? ⟨w.heap.size, 0, none⟩ = false ∧ w1.cell? ⟨w.heap.size + 1, 0, none⟩ = some o2 ∧ w1.frozen? ⟨w.heap.size + 1, 0, none⟩ = false := by
  have n0 : v.ownBlock ≠ some w.heap.size := fun e => by have := hlt _ e; omega
  have n1 : v.ownBlock ≠ some (w.heap.size + 1) := fun e => by have := hlt _ e; omega
  have b0 : (w.heap.size : Nat) < (((w.alloc (.cells #[o1] t1)).alloc (.cells #[o2] t2)).alloc o3).heap.size := by simp; omega
  have b1 : w.heap.size + 1 < (((w.alloc (.cells #[o1] t1)).alloc (.cells #[o2] t2)).alloc o3).heap.size := by simp
  refine ⟨?_, ?_, ?_, ?_⟩
  · rw [h.cell_far ⟨w.heap.size, 0, none⟩ b0 (fun e => n0 e.symm), World.cell?_alloc_past _ _ _ (by simp; omega), World.cell?_alloc_past _ _ _ (by simp), World.cell?_alloc_at _ _ _ _ rfl]; rfl
  · rw [h.frozen_far ⟨w.heap.size, 0, none⟩ b0 (fun e => n0 e.symm), World.frozen?_alloc_past _ _ _ (by simp; omega), World.frozen?_alloc_past _ _ _ (by simp), World.frozen?_alloc_at _ _ _ _ rfl]
  · rw [h.cell_far ⟨w.heap.size + 1, 0, none⟩ b1 (fun e => n1 e.symm), World.cell?_alloc_past _ _ _ (by simp), World.cell?_alloc_at _ _ _ _ (by simp)]; rfl
  · rw [h.frozen_far ⟨w.heap.size + 1, 0, none⟩ b1 (fun e => n1 e.symm), World.frozen?_alloc_past _ _ _ (by simp), World.frozen?_alloc_at _ _ _ _ (by simp)]

set_option maxHeartbeats 1000000 in
theorem withStar_any (w : World) (base : Nat) (v : Value) (n : Nat) (xs : List Value) (r d : Nat) (hown : w.ownsRow base 58 8 v n xs) (hn : n ≤ 140000) (hbase : base ≤ w.heap.size) :
    Calls Try.prog 14 #[.agg #[v], .float .f64 r, .float .f64 d] w fun e w' => ∃ g c, e = .returned (.agg #[.slice (some ⟨g, 0, none⟩) (n + 1) c]) ∧ w'.ownsRow base 58 8 (.slice (some ⟨g, 0, none⟩) (n + 1) c) (n + 1) (xs ++ starL r d) ∧ w.grownBy w' v.ownBlock ∧ Lies w v (.slice (some ⟨g, 0, none⟩) (n + 1) c) := by
  obtain ⟨i58, hi58, hz58, hs58, hb58⟩ := info_parts Try.info58
  have hv : ∃ a l c, v = .slice a l c := by
    rcases hown.2 with ⟨rfl, rfl⟩ | ⟨g, cap, cur, rfl, _⟩
    · exact ⟨_, _, _, rfl⟩
    · exact ⟨_, _, _, rfl⟩
  obtain ⟨a, l, c, rfl⟩ := hv
  go_enter Try.func14, Try.ntmps14
  have hlt := fun k hk => (hown.lt k hk).2
  go_wp2_with (at_builtin; refine wpList_append_lies _ rfl (.tmp 8) (.tmp 12) 29 rfl base 58 i58 _ 8 64 Try.underlying29 hi58 hz58 hs58 hb58 rfl (by decide) (.slice a l c) n xs rfl (((hown.alloc _).alloc _).alloc _) ⟨w.heap.size + 2, 0, none⟩ 1 1 (starL r d) rfl rfl (starL_cell (by simp)) starL_one (by omega) (by unfold maxLen; omega) (by omega) (by simp; omega) _ rfl ?_; intro g' c' w1 hown1 hgrow1 hat hlt1; obtain ⟨q0, p0, q1, p1⟩ := boxes hlt hgrow1)
  refine bodyPost_ret (v := .agg #[.slice (some ⟨g', 0, none⟩) (n + 1) c']) (by simp [results, Try.results14, go_sem, q1]) rfl ⟨g', c', rfl, ?_, ?_, ?_⟩
  · have hne : g' ≠ w.heap.size ∧ g' ≠ w.heap.size + 1 := by
      rcases hat with hat | hat
      · have := hlt _ hat; omega
      · simp at hat; omega
    exact ownsRow_setCell_other (ownsRow_setCell_other hown1 (by simpa [Value.ownBlock] using hne.1) _) (by simpa [Value.ownBlock] using hne.2) _
  · exact gb_setCell (gb_setCell (gb_step (gb_alloc (gb_alloc (gb_alloc (gb_refl _ _) _) _) _) hgrow1 (Or.inl rfl)) (by exact Nat.le_refl _) _) (by exact Nat.le_succ _) _
  · exact (Lies.refl w _).step (a := ((w.alloc _).alloc _).alloc _) (by simp; omega) hat

/-- What a walk is told of a slice of two floats a cell that came in: at every index below its length both are there. -/
def Pairs (w : World) (a : Option Addr) (n : Nat) (R D : Nat → Nat) : Prop :=
  ∀ i, i < n → ∃ b off, a = some ⟨b, off, none⟩ ∧ w.cell? ⟨b, off + i * 2, none⟩ = some (.float .f64 (R i)) ∧ w.cell? ⟨b, off + i * 2 + 1, none⟩ = some (.float .f64 (D i))

theorem Pairs.below {w w' : World} {a : Option Addr} {n : Nat} {R D : Nat → Nat} (h : Pairs w a n R D) (hb : Below w.heap.size w w') : Pairs w' a n R D := fun i hi => by
  obtain ⟨b, off, ha, h0, h1⟩ := h i hi
  exact ⟨b, off, ha, by rw [hb.cell (by exact lt_of_cell h0)]; exact h0, by rw [hb.cell (by exact lt_of_cell h1)]; exact h1⟩

/-- The row of places as it stands in the loop that fills it. -/
def RowTo (w : World) (g n k : Nat) (xs : List Value) : Prop := ∃ cs : Array Value, cs.size = n * 2 ∧ w.heap[g]? = some (.cells cs 39 (0, 0)) ∧ cs.toList.take (k * 2) = xs

theorem RowTo.cell {w : World} {g n k : Nat} {xs : List Value} (h : RowTo w g n k xs) (j : Nat) (hj : j < n * 2) : ∃ v, w.cell? ⟨g, j, none⟩ = some v := by
  obtain ⟨cs, h1, h2, _⟩ := h
  exact ⟨cs[j], by simp [World.cell?, h2]⟩
theorem RowTo.free {w : World} {g n k : Nat} {xs : List Value} (h : RowTo w g n k xs) (j : Nat) : w.frozen? ⟨g, j, none⟩ = false := by
  obtain ⟨cs, h1, h2, _⟩ := h
  simp [World.frozen?, h2]
theorem set_block {w : World} {g j : Nat} {cs : Array Value} {t : TypeId} (h : w.heap[g]? = some (.cells cs t (0, 0))) (u : Value) : (w.setCell ⟨g, j, none⟩ u).heap[g]? = some (.cells (cs.setIfInBounds j u) t (0, 0)) := by
  have hlt := lt_of_block h
  have h' : w.heap[g] = .cells cs t (0, 0) := by simpa [Array.getElem?_eq_getElem hlt] using h
  show (w.heap.modify g _)[g]? = _
  rw [Array.getElem?_eq_getElem (by simpa using hlt), Array.getElem_modify_self, h']
  rfl
theorem take_set2 (l : List Value) (m : Nat) (x y : Value) (h : m + 1 < l.length) : ((l.set m x).set (m + 1) y).take (m + 2) = l.take m ++ [x, y] := by
  apply List.ext_getElem?
  intro j
  rw [List.getElem?_take]
  rcases Nat.lt_trichotomy j m with hj | rfl | hj
  · rw [if_pos (by omega), List.getElem?_set_ne (by omega), List.getElem?_set_ne (by omega), List.getElem?_append_left (by simp; omega), List.getElem?_take, if_pos hj]
  · rw [if_pos (by omega), List.getElem?_set_ne (by omega), List.getElem?_set_self (by omega), List.getElem?_append_right (by simp; omega)]
    simp
    rw [Nat.min_eq_left (by omega)]
    simp
  · by_cases hj1 : j = m + 1
    · subst hj1
      rw [if_pos (by omega), List.getElem?_set_self (by simp; omega), List.getElem?_append_right (by simp; omega)]
      simp
      rw [Nat.min_eq_left (by omega)]
      simp
    · rw [if_neg (by omega), List.getElem?_eq_none]
      simp
      omega
theorem RowTo.set2 {w : World} {g n k : Nat} {xs : List Value} (h : RowTo w g n k xs) (hk : k < n) (x y : Value) : RowTo ((w.setCell ⟨g, k * 2, none⟩ x).setCell ⟨g, k * 2 + 1, none⟩ y) g n (k + 1) (xs ++ [x, y]) := by
  obtain ⟨cs, h1, h2, h3⟩ := h
  refine ⟨_, ?_, set_block (set_block h2 x) y, ?_⟩
  · simpa using h1
  · rw [← h3]
    simp only [Array.toList_setIfInBounds]
    rw [show (k + 1) * 2 = k * 2 + 2 by omega]
    exact take_set2 _ _ _ _ (by rw [Array.length_toList, h1]; omega)

set_option maxHeartbeats 2000000 in
theorem toPlaces_any (w : World) (a : Option Addr) (n c : Nat) (R D : Nat → Nat) (HP : Pairs w a n R D) (hn : n ≤ 65536) (h0 : a = none → n = 0) :
    Calls Try.prog 7 #[.slice a n c] w fun e w' => ∃ v, e = .returned v ∧ w'.ownsRow w.heap.size 39 2 v n (placesL R D n) ∧ Below w.heap.size w w' := by
  have HP' : Hid (Pairs w a n R D) := HP
  clear HP
  obtain ⟨i39, hi39, hz39, hs39, hb39⟩ := info_parts Try.info39
  have heq := fun w => Lib.run_eql_slice_nil (P := Try.prog) w 22 41 a n c 0 0 Try.underlying22
  have hmk : ∀ w : World, (Instr.makeSlice 25 (.int .i64 (n : Int)) (.int .i64 (n : Int))).run Try.prog w = .ok (.slice (some ⟨w.heap.size, 0, none⟩) n n) (w.alloc (.cells (madeCells #[.float .f64 0, .float .f64 0] (n * 2)) 39)) := by
    intro w
    have h := run_make (P := Try.prog) w 25 39 i39 _ Try.underlying25 hi39 hz39 .i64 .i64 n n (by omega) (Int.le_refl _) (by rw [hb39]; omega) (by omega)
    rw [hs39] at h
    simpa [Value.cells] using h
  cases a with
  | none =>
    obtain rfl := h0 rfl
    go_enter Try.func7, Try.ntmps7
    go_wp2
    go_ret
    exact ⟨_, rfl, World.ownsRow_nil _ _ _ _, Below.refl _ _⟩
  | some ad =>
    go_enter Try.func7, Try.ntmps7
    go_wp2
    go_loopw [4] (fun i wr => ∃ k : Nat, k ≤ n ∧ i = .int .i64 k ∧ RowTo wr w.heap.size n k (placesL R D k) ∧ Below w.heap.size w wr) (fun i _ => n - (intOf i).toNat)
    case atStart => exact ⟨0, Nat.zero_le _, rfl, ⟨_, size_madeCells _ _, heap_alloc_new _ _, by simp [placesL]⟩, (Below.refl _ _).alloc (Nat.le_refl _) _⟩
    case round =>
      rename World => wA
      obtain ⟨k, hk, rfl, hrow, hbel⟩ := hrel
      by_cases hlt : k < n
      · obtain ⟨b, off, he, hc0, hc1⟩ := HP'.out k hlt
        obtain rfl : ad = ⟨b, off, none⟩ := Option.some.inj he
        have hb := lt_of_cell hc0
        have hc0' : wA.cell? ⟨b, off + k * 2, none⟩ = some (.float .f64 (R k)) := by rw [hbel.cell (by exact hb)]; exact hc0
        have hc1' : wA.cell? ⟨b, off + k * 2 + 1, none⟩ = some (.float .f64 (D k)) := by rw [hbel.cell (by exact hb)]; exact hc1
        obtain ⟨x0, hx0⟩ := hrow.cell (k * 2) (by omega)
        obtain ⟨x1, hx1⟩ := hrow.cell (k * 2 + 1) (by omega)
        have hf0 := hrow.free (k * 2)
        have hf1 := hrow.free (k * 2 + 1)
        have hne : b ≠ w.heap.size := by omega
        clear he hc0 hc1
        go_wp2
        go_region
        go_wp2
        go_roundw
        case rel => exact ⟨k + 1, by omega, by go_num, by rw [placesL_succ]; exact hrow.set2 hlt _ _, ((hbel.setCell (by exact Nat.le_refl _) _).setCell (by exact Nat.le_refl _) _).drew⟩
        case measure => simp [intOf]; omega
      · obtain rfl : k = n := by omega
        have hown : wA.ownsRow w.heap.size 39 2 (.slice (some ⟨w.heap.size, 0, none⟩) k k) k (placesL R D k) := by
          obtain ⟨cs, h1, h2, h3⟩ := hrow
          exact ⟨placesL_len _ _ _, Or.inr ⟨w.heap.size, k, cs, rfl, Nat.le_refl _, h2, Nat.le_refl _, by unfold maxLen; omega, h1, h3⟩⟩
        clear hlt hk hrow
        go_wp2
        go_ret
        exact ⟨_, rfl, hown, hbel⟩

/-- What a round of catalogueOfBoth leaves. -/
theorem cat_round {w wA w1 : World} {v : Value} {k : Nat} {xs ys : List Value} {g1 c1 : Nat} (hbel : Below w.heap.size w wA) (hres : wA.heap[w.heap.size]? = some (.cells #[.slice none 0 0] 31 (0, 0))) (hbox : wA.heap[w.heap.size + 1]? = some (.cells #[v] 31 (0, 0)))
    (hown : wA.ownsRow (w.heap.size + 2) 58 8 v k xs) (hgrow1 : wA.grownBy w1 v.ownBlock) (hown1 : w1.ownsRow (w.heap.size + 2) 58 8 (.slice (some ⟨g1, 0, none⟩) (k + 1) c1) (k + 1) ys) :
    (w1.setCell ⟨w.heap.size + 1, 0, none⟩ (.slice (some ⟨g1, 0, none⟩) (k + 1) c1)).heap[w.heap.size + 1]? = some (.cells #[.slice (some ⟨g1, 0, none⟩) (k + 1) c1] 31 (0, 0)) ∧
    (w1.setCell ⟨w.heap.size + 1, 0, none⟩ (.slice (some ⟨g1, 0, none⟩) (k + 1) c1)).heap[w.heap.size]? = some (.cells #[.slice none 0 0] 31 (0, 0)) ∧
    (w1.setCell ⟨w.heap.size + 1, 0, none⟩ (.slice (some ⟨g1, 0, none⟩) (k + 1) c1)).ownsRow (w.heap.size + 2) 58 8 (.slice (some ⟨g1, 0, none⟩) (k + 1) c1) (k + 1) ys ∧
    Below w.heap.size w (w1.setCell ⟨w.heap.size + 1, 0, none⟩ (.slice (some ⟨g1, 0, none⟩) (k + 1) c1)) := by
  have hsz := lt_of_block hbox
  have hne1 : some (w.heap.size + 1) ≠ v.ownBlock := fun e => by have := hown.lt _ e.symm; omega
  have hne0 : some w.heap.size ≠ v.ownBlock := fun e => by have := hown.lt _ e.symm; omega
  have hg1 : w.heap.size + 2 ≤ g1 := (hown1.lt g1 rfl).1
  refine ⟨one_setCell ((hgrow1.block _ hsz hne1).trans hbox), ?_, ownsRow_setCell_other hown1 (by simp [Value.ownBlock]; omega) _, ?_⟩
  · rw [Below.heap_setCell _ _ _ _ (by simp)]
    exact (hgrow1.block _ (by omega) hne0).trans hres
  · exact (hbel.trans (gb_to_below hgrow1 (by omega) (fun g hg => by have := hown.lt g hg; omega))).setCell (by exact Nat.le_succ _) _

set_option maxHeartbeats 2000000 in
theorem catalogue_any (w : World) (a b : Option Addr) (n c m d : Nat) (R D R2 D2 : Nat → Nat) (HA : Pairs w a n R D) (HB : Pairs w b m R2 D2) (hn : n ≤ 65536) (hm : m ≤ 65536) :
    Calls Try.prog 8 #[.slice a n c, .slice b m d] w fun e w' => ∃ v, e = .returned (.agg #[v]) ∧ w'.ownsRow w.heap.size 58 8 v (n + m) (starsL R D n ++ starsL R2 D2 m) ∧ Below w.heap.size w w' := by
  have HA' : Hid (Pairs w a n R D) := HA
  have HB' : Hid (Pairs w b m R2 D2) := HB
  clear HA HB
  go_enter Try.func8, Try.ntmps8
  go_wp2
  go_loopw [6] (fun i wr => ∃ (k : Nat) (v : Value), k ≤ n ∧ i = .int .i64 k ∧ wr.heap[w.heap.size + 1]? = some (.cells #[v] 31 (0, 0)) ∧ wr.heap[w.heap.size]? = some (.cells #[.slice none 0 0] 31 (0, 0)) ∧ wr.ownsRow (w.heap.size + 2) 58 8 v k (starsL R D k) ∧ Below w.heap.size w wr) (fun i _ => n - (intOf i).toNat)
  case atStart =>
    refine ⟨0, .slice none 0 0, Nat.zero_le _, rfl, ?_, ?_, World.ownsRow_nil _ _ _ _, ((Below.refl _ _).alloc (Nat.le_refl _) _).alloc (by simp) _⟩
    · simpa using heap_alloc_new (w.alloc (.cells #[.slice none 0 0] 31)) (.cells #[.slice none 0 0] 31)
    · rw [Below.heap_alloc _ _ _ (by simp)]; exact heap_alloc_new _ _
  case round =>
    rename World => wA
    obtain ⟨k, v, hk, rfl, hbox, hres, hown, hbel⟩ := hrel
    have hsz := lt_of_block hbox
    have e0 := cell_of_one hbox
    have f0 := free_of_one hbox
    by_cases hlt : k < n
    · obtain ⟨g, off, he, hc0, hc1⟩ := HA'.out k hlt
      subst he
      have hb := lt_of_cell hc0
      have hc0' : wA.cell? ⟨g, off + k * 2, none⟩ = some (.float .f64 (R k)) := by rw [hbel.cell (by exact hb)]; exact hc0
      have hc1' : wA.cell? ⟨g, off + k * 2 + 1, none⟩ = some (.float .f64 (D k)) := by rw [hbel.cell (by exact hb)]; exact hc1
      have hne1 : some (w.heap.size + 1) ≠ v.ownBlock := fun e => by have := hown.lt _ e.symm; omega
      have hne0 : some w.heap.size ≠ v.ownBlock := fun e => by have := hown.lt _ e.symm; omega
      clear hc0 hc1
      go_wp2
      go_region_with (go_at_call 14; refine (withStar_any _ (w.heap.size + 2) v k _ _ _ (by exact hown) (by omega) (by exact hsz)).mono ?_; rintro e w1 ⟨g1, c1, rfl, hown1, hgrow1, hlies1⟩; have hbox1 := (hgrow1.block (w.heap.size + 1) (by exact hsz) hne1).trans hbox; have e1 := cell_of_one hbox1; have f1 := free_of_one hbox1)
      all_goals
        go_wp2
        obtain ⟨t0, t1, t2, t3⟩ := cat_round hbel hres hbox hown (gb_of_drew hgrow1) hown1
        rw [← starsL_succ] at t2
        go_roundw
        case rel => exact ⟨k + 1, _, by omega, by go_num, t0, t1, t2, t3⟩
        case measure => simp [intOf]; omega
    · obtain rfl : k = n := by omega
      clear hlt hk e0 f0
      go_wp2
      go_loopw [7] (fun i wr => ∃ (j : Nat) (v : Value), j ≤ m ∧ i = .int .i64 j ∧ wr.heap[w.heap.size + 1]? = some (.cells #[v] 31 (0, 0)) ∧ wr.heap[w.heap.size]? = some (.cells #[.slice none 0 0] 31 (0, 0)) ∧ wr.ownsRow (w.heap.size + 2) 58 8 v (k + j) (starsL R D k ++ starsL R2 D2 j) ∧ Below w.heap.size w wr) (fun i _ => m - (intOf i).toNat)
      case atStart => exact ⟨0, v, Nat.zero_le _, rfl, hbox, hres, by simpa [starsL] using hown, hbel⟩
      case round =>
        clear hbox hres hown hbel hsz
        rename World => wB
        obtain ⟨j, v, hj, rfl, hbox, hres, hown, hbel⟩ := hrel
        have hsz := lt_of_block hbox
        have e0 := cell_of_one hbox
        have f0 := free_of_one hbox
        have hne1 : some (w.heap.size + 1) ≠ v.ownBlock := fun e => by have := hown.lt _ e.symm; omega
        by_cases hlt : j < m
        · obtain ⟨g, off, he, hc0, hc1⟩ := HB'.out j hlt
          subst he
          have hb := lt_of_cell hc0
          have hc0' : wB.cell? ⟨g, off + j * 2, none⟩ = some (.float .f64 (R2 j)) := by rw [hbel.cell (by exact hb)]; exact hc0
          have hc1' : wB.cell? ⟨g, off + j * 2 + 1, none⟩ = some (.float .f64 (D2 j)) := by rw [hbel.cell (by exact hb)]; exact hc1
          clear hc0 hc1
          go_wp2
          go_region_with (go_at_call 14; refine (withStar_any _ (w.heap.size + 2) v (k + j) _ _ _ (by exact hown) (by omega) (by exact hsz)).mono ?_; rintro e w1 ⟨g1, c1, rfl, hown1, hgrow1, hlies1⟩; have hbox1 := (hgrow1.block (w.heap.size + 1) (by exact hsz) hne1).trans hbox; have e1 := cell_of_one hbox1; have f1 := free_of_one hbox1)
          all_goals
            go_wp2
            obtain ⟨t0, t1, t2, t3⟩ := cat_round hbel hres hbox hown (gb_of_drew hgrow1) hown1
            rw [List.append_assoc, ← starsL_succ] at t2
            go_roundw
            case rel => exact ⟨j + 1, _, by omega, by go_num, t0, t1, t2, t3⟩
            case measure => simp [intOf]; omega
        · obtain rfl : j = m := by omega
          have r0 := cell_of_one hres
          have rf0 := free_of_one hres
          have hv : ∃ a l c, v = .slice a l c := by
            rcases hown.2 with ⟨rfl, _⟩ | ⟨g, cap, cur, rfl, _⟩
            · exact ⟨_, _, _, rfl⟩
            · exact ⟨_, _, _, rfl⟩
          obtain ⟨va, vl, vc, rfl⟩ := hv
          clear hlt hj hne1
          go_wp2
          refine bodyPost_ret (v := .agg #[.slice va vl vc]) (by simp [results, Try.results8, go_sem, r0]) rfl ⟨_, rfl, ?_, ?_⟩
          · exact own_mono (ownsRow_setCell_below hown (by exact Nat.lt_succ_of_lt (Nat.lt_succ_self _)) _) (by omega)
          · exact hbel.setCell (by exact Nat.le_refl _) _
end Go.Proofs.Qxb6609382a.W
