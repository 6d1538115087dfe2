import Derived.Test.Qxb6609382aC
import Derived.Laws.EntriesVeiled
namespace Go.Proofs.Qxb6609382a.W
open Go.RowKit Go.Deep
attribute [local go_sem] run_store_float

/-- K is the first of the m stars whose declination is a NaN, or m. -/
def FirstNaN (D : Nat → Nat) (m K : Nat) : Prop := K ≤ m ∧ (∀ i, i < K → nan (D i) = false) ∧ (K < m → nan (D K) = true)

theorem FirstNaN.uniq {D : Nat → Nat} {m K K' : Nat} (h : FirstNaN D m K) (h' : FirstNaN D m K') : K = K' := by
  obtain ⟨a, b, c⟩ := h
  obtain ⟨a', b', c'⟩ := h'
  rcases Nat.lt_trichotomy K K' with hl | he | hg
  · have := b' K hl
    rw [c (by omega)] at this
    cases this
  · exact he
  · have := b K' hg
    rw [c' (by omega)] at this
    cases this

theorem Lies.down {w a : World} {v v' : Value} (h : Lies a v v') (hs : w.heap.size ≤ a.heap.size) : Lies w v v' := by
  rcases h with h | h
  · exact Or.inl h
  · exact Or.inr (fun g hg => Nat.le_trans hs (h g hg))

theorem pairL_one {x y : Nat} : ∀ u ∈ ([.float .f64 x, .float .f64 y] : List Value), u.oneCell' = true := by
  intro u hu
  simp at hu
  rcases hu with rfl | rfl <;> rfl
theorem pairL_cell {w : World} {x y : Nat} {ty : TypeId} {n : Nat} (hn : n = w.heap.size) : ∀ j u, ([.float .f64 x, .float .f64 y] : List Value)[j]? = some u → (w.alloc (.cells #[.float .f64 x, .float .f64 y] ty)).cell? ((⟨n, 0, none⟩ : Addr).add j) = some u := by
  intro j u hu
  have : (w.alloc (.cells #[.float .f64 x, .float .f64 y] ty)).cell? ⟨n, j, none⟩ = some u := by
    rw [World.cell?_alloc_at _ _ _ _ hn]
    simpa using hu
  cases j <;> simpa [Addr.add] using this

/-- What appendPlaces leaves. -/
def Appended (w : World) (b1 : Nat) (v : Value) (n m : Nat) (xs : List Value) (R D : Nat → Nat) (e : Ending) (w' : World) : Prop :=
  ∃ (K : Nat) (v' err : Value), FirstNaN D m K ∧ e = .returned (.tuple #[v', err]) ∧ w'.ownsRow b1 39 2 v' (n + K) (xs ++ placesL R D K) ∧ w.grownBy w' v.ownBlock ∧ Lies w v v' ∧
    ((K = m ∧ err = .nilIface) ∨ (K < m ∧ ∃ b, err = .iface 49 (.pointer (some ⟨b, 0, none⟩)) ∧ w'.cell? ⟨b, 0, none⟩ = some (.int .i64 K)))

set_option maxHeartbeats 2000000 in
theorem appendPlaces_any (w : World) (b1 b2 : Nat) (v sv : Value) (n m : Nat) (xs : List Value) (R D : Nat → Nat) (hown : w.ownsRow b1 39 2 v n xs) (hstars : w.ownsRow b2 58 8 sv m (starsL R D m))
    (hdis : ∀ g, sv.ownBlock = some g → v.ownBlock ≠ some g) (hn : n + m ≤ 200000) (hb1 : b1 ≤ w.heap.size) :
    Calls Try.prog 12 #[v, .agg #[sv], .func (.func 13) #[] #[]] w fun e w' => Appended w b1 v n m xs R D e w' := by
  obtain ⟨i39, hi39, hz39, hs39, hb39⟩ := info_parts Try.info39
  have HS : Hid (w.ownsRow b2 58 8 sv m (starsL R D m)) := hstars
  have HD : Hid (∀ g, sv.ownBlock = some g → v.ownBlock ≠ some g) := hdis
  have hsv : ∃ a c, sv = .slice a m c := by
    rcases hstars.2 with ⟨rfl, rfl⟩ | ⟨g, cap, cur, rfl, _⟩
    · exact ⟨_, _, rfl⟩
    · exact ⟨_, _, rfl⟩
  obtain ⟨sa, sc, rfl⟩ := hsv
  have hlt0 : Hid (∀ k, v.ownBlock = some k → k < w.heap.size) := fun k hk => (hown.lt k hk).2
  clear hstars hdis
  go_enter Try.func12, Try.ntmps12
  go_wp2
  go_loopw [0, 8, 9, 10, 14] (fun u _ _ _ i wr => ∃ k : Nat, k ≤ m ∧ i = .int .i64 k ∧ Hid (∀ i, i < k → nan (D i) = false) ∧ wr.ownsRow b1 39 2 u (n + k) (xs ++ placesL R D k) ∧ (w.alloc (.cells #[.slice sa m sc] 31)).grownBy wr v.ownBlock ∧ Lies (w.alloc (.cells #[.slice sa m sc] 31)) v u) (fun _ _ _ _ i _ => m - (intOf i).toNat)
  case atStart => exact ⟨0, Nat.zero_le _, rfl, fun i hi => absurd hi (Nat.not_lt_zero _), by simpa [placesL] using hown.alloc _, gb_refl _ _, Lies.refl _ _⟩
  case round =>
    rename World => wA
    obtain ⟨k, hk, rfl, hnans, hownA, hgrow, hlies⟩ := hrel
    have hszA : w.heap.size + 1 ≤ wA.heap.size := by have := hgrow.size; simpa using this
    have hbox : wA.cell? ⟨w.heap.size, 0, none⟩ = some (.slice sa m sc) := by
      rw [gb_cell hgrow (by simp) (fun e => by have := hlt0.out _ e; omega)]; simp
    by_cases hlt : k < m
    · obtain ⟨gs, scp, hse, _, hsl⟩ := HS.out.form (by omega)
      simp only [Value.slice.injEq] at hse
      obtain ⟨rfl, _, rfl⟩ := hse
      have st : ∀ j u, j < 8 → (starL (R k) (D k))[j]? = some u → wA.cell? ⟨gs, k * 8 + j, none⟩ = some u := fun j u hj hu => by
        rw [gb_cell hgrow (by simp; omega) (HD.out gs rfl), World.cell?_alloc_past _ _ _ hsl]
        exact own_cell HS.out (by rw [starsL_at _ _ _ _ _ hlt hj]; exact hu)
      have s0 : wA.cell? ⟨gs, k * 8, none⟩ = some (.float .f64 (R k)) := st 0 _ (by omega) rfl
      have s1 : wA.cell? ⟨gs, k * 8 + 1, none⟩ = some (.float .f64 (D k)) := st 1 _ (by omega) rfl
      clear st
      cases hnan : nan (D k)
      · go_wp2_with fail
        refine (starPlace_ok gs (k * 8) (R k) (D k) wA hnan s0 s1).mono ?_
        rintro e w1 ⟨rfl, hb1'⟩
        have hown1 := own_block hownA (fun g hg => hb1'.block g (hownA.lt g hg).2)
        have hsz1 := hb1'.size
        go_wp2_with (at_builtin; refine wpList_append_lies _ rfl (.tmp 34) (.tmp 36) 25 rfl b1 39 i39 _ 2 16 Try.underlying25 hi39 hz39 hs39 hb39 rfl (by decide) u0 (n + k) _ rfl ((hown1.alloc _).alloc _) ⟨w1.heap.size + 1, 0, none⟩ 1 1 [.float .f64 (R k), .float .f64 (D k)] rfl rfl (pairL_cell (by simp)) pairL_one (by omega) (by unfold maxLen; omega) (by omega) (by simp; omega) _ rfl ?_; intro g' c' w2 hown2 hgrow2 hat hlt2)
        have hgrow3 := gb_step (gb_alloc (gb_alloc (gb_below hgrow hb1') _) _) hgrow2 hlies.row
        have hlies3 := hlies.step (a := (w1.alloc _).alloc _) (n := n + k + 1) (c := c') (by simp; omega) hat
        rw [List.append_assoc, ← placesL_succ] at hown2
        have hnans2 : Hid (∀ i, i < k + 1 → nan (D i) = false) := fun i hi => by
          rcases Nat.lt_or_eq_of_le (Nat.le_of_lt_succ hi) with h | rfl
          · exact hnans.out i h
          · exact hnan
        go_roundw
        case rel => exact ⟨k + 1, by omega, by go_num, hnans2, hown2, hgrow3, hlies3⟩
        case measure => simp [intOf]; omega
      · go_wp2_with fail
        refine (starPlace_nan gs (k * 8) (D k) wA hnan s1).mono ?_
        rintro e w1 ⟨a', rfl, hb1'⟩
        have hown1 := own_block hownA (fun g hg => hb1'.block g (hownA.lt g hg).2)
        go_wp2_with fail
        go_ret2
        exact ⟨k, u0, _, ⟨hk, hnans.out, fun _ => hnan⟩, rfl, (hown1.alloc _).alloc _, gb_alloc (gb_alloc (gb_below (gb_step (gb_alloc (gb_refl _ _) _) hgrow (Or.inl rfl)) hb1') _) _, hlies.down (by simp), Or.inr ⟨hlt, _, rfl, by simp⟩⟩
    · obtain rfl : k = m := by omega
      clear hlt
      go_wp2
      go_ret2
      exact ⟨k, u0, _, ⟨hk, hnans.out, fun h => absurd h (Nat.lt_irrefl _)⟩, rfl, hownA, gb_step (gb_alloc (gb_refl _ _) _) hgrow (Or.inl rfl), hlies.down (by simp), Or.inl ⟨rfl, rfl⟩⟩

theorem assert49 (a : Addr) (w : World) : (Instr.typeAssert (.iface 49 (.pointer (some a))) 45 49 true).run Try.prog w = .ok (.tuple #[.pointer (some a), .bool true]) w := by kernel_rfl

/-- The index that is told. -/
def idxOf (m K : Nat) : Int := if K < m then K else 0
/-- What ZZAppendPlaces leaves. -/
def ZZAppended (w : World) (b1 : Nat) (v : Value) (n m : Nat) (xs : List Value) (R D : Nat → Nat) (e : Ending) (w' : World) : Prop :=
  ∃ (K : Nat) (v' : Value), FirstNaN D m K ∧ e = .returned (.tuple #[v', .int .i64 (idxOf m K), .bool (decide (K < m))]) ∧ w'.ownsRow b1 39 2 v' (n + K) (xs ++ placesL R D K) ∧ w.grownBy w' v.ownBlock ∧ Lies w v v'

set_option maxHeartbeats 2000000 in
theorem zzAppend_any (w : World) (b1 b2 : Nat) (v sv : Value) (n m : Nat) (xs : List Value) (R D : Nat → Nat) (hown : w.ownsRow b1 39 2 v n xs) (hstars : w.ownsRow b2 58 8 sv m (starsL R D m))
    (hdis : ∀ g, sv.ownBlock = some g → v.ownBlock ≠ some g) (hn : n + m ≤ 200000) (hb1 : b1 ≤ w.heap.size) :
    Calls Try.prog 6 #[v, .agg #[sv]] w fun e w' => ZZAppended w b1 v n m xs R D e w' := by
  have HC := appendPlaces_any (w.alloc (.cells #[sv] 31)) b1 b2 v sv n m xs R D (hown.alloc _) (hstars.alloc _) hdis hn (by simp; omega)
  clear hown hstars hdis
  have hta := assert49
  go_enter Try.func6, Try.ntmps6
  go_wp2_with fail
  refine HC.mono ?_
  rintro e w1 ⟨K, v', err, hK, rfl, hown', hgrow', hlies', hcase⟩
  have hg := gb_step (gb_alloc (gb_refl w v.ownBlock) (.cells #[sv] 31)) hgrow' (Or.inl rfl)
  have hl := hlies'.down (w := w) (by simp)
  rcases hcase with ⟨hKm, rfl⟩ | ⟨hKm, b, rfl, hcell⟩
  · go_wp2_with fail
    go_ret3
    refine ⟨K, v', hK, ?_, hown', hg, hl⟩
    simp [idxOf, hKm]
  · go_wp2_with fail
    go_quiet (fail)
    go_wp2_with fail
    go_ret3
    refine ⟨K, v', hK, ?_, hown', gb_drewN hg _, hl⟩
    simp [idxOf, hKm]

/-! ### samePlaces -/
set_option maxHeartbeats 2000000 in
theorem samePlaces_any (w : World) (b1 b2 : Nat) (v v' : Value) (n : Nat) (R D : Nat → Nat) (h1 : w.ownsRow b1 39 2 v n (placesL R D n)) (h2 : w.ownsRow b2 39 2 v' n (placesL R D n)) (hn : n ≤ 400000) :
    Calls Try.prog 11 #[v, v'] w fun e w' => e = .returned (.bool true) ∧ Below w.heap.size w w' := by
  have H1 : Hid (w.ownsRow b1 39 2 v n (placesL R D n)) := h1
  have H2 : Hid (w.ownsRow b2 39 2 v' n (placesL R D n)) := h2
  have hv : ∃ a c, v = .slice a n c := by
    rcases h1.2 with ⟨rfl, rfl⟩ | ⟨g, cap, cur, rfl, _⟩
    · exact ⟨_, _, rfl⟩
    · exact ⟨_, _, rfl⟩
  have hv' : ∃ a c, v' = .slice a n c := by
    rcases h2.2 with ⟨rfl, rfl⟩ | ⟨g, cap, cur, rfl, _⟩
    · exact ⟨_, _, rfl⟩
    · exact ⟨_, _, rfl⟩
  obtain ⟨a, c, rfl⟩ := hv
  obtain ⟨a', c', rfl⟩ := hv'
  clear h1 h2
  go_enter Try.func11, Try.ntmps11
  go_wp2
  go_loopw [5] (fun i wr => ∃ k : Nat, k ≤ n ∧ i = .int .i64 k ∧ Below w.heap.size w wr) (fun i _ => n - (intOf i).toNat)
  case atStart => exact ⟨0, Nat.zero_le _, rfl, Below.refl _ _⟩
  case round =>
    rename World => wA
    obtain ⟨k, hk, rfl, hbel⟩ := hrel
    by_cases hlt : k < n
    · obtain ⟨g, cp, he, _, hgl⟩ := H1.out.form (by omega)
      simp only [Value.slice.injEq] at he
      obtain ⟨rfl, _, rfl⟩ := he
      obtain ⟨g', cp', he', _, hgl'⟩ := H2.out.form (by omega)
      simp only [Value.slice.injEq] at he'
      obtain ⟨rfl, _, rfl⟩ := he'
      have x0 : wA.cell? ⟨g, k * 2, none⟩ = some (.float .f64 (R k)) := by rw [hbel.cell (by exact hgl)]; exact own_cell H1.out (j := k * 2 + 0) (by rw [placesL_at _ _ _ _ _ hlt (by omega)]; rfl)
      have x1 : wA.cell? ⟨g, k * 2 + 1, none⟩ = some (.float .f64 (D k)) := by rw [hbel.cell (by exact hgl)]; exact own_cell H1.out (by rw [placesL_at _ _ _ _ _ hlt (by omega)]; rfl)
      have y0 : wA.cell? ⟨g', k * 2, none⟩ = some (.float .f64 (R k)) := by rw [hbel.cell (by exact hgl')]; exact own_cell H2.out (j := k * 2 + 0) (by rw [placesL_at _ _ _ _ _ hlt (by omega)]; rfl)
      have y1 : wA.cell? ⟨g', k * 2 + 1, none⟩ = some (.float .f64 (D k)) := by rw [hbel.cell (by exact hgl')]; exact own_cell H2.out (by rw [placesL_at _ _ _ _ _ hlt (by omega)]; rfl)
      have hsz := hbel.size
      have l0 : g < wA.heap.size := by omega
      have l1 : g' < wA.heap.size := by omega
      go_wp2
      go_region_held3 (fun w' => w'.cell? ⟨g, k * 2, none⟩ = some (.float .f64 (R k)) ∧ w'.cell? ⟨g, k * 2 + 1, none⟩ = some (.float .f64 (D k)) ∧ w'.cell? ⟨g', k * 2, none⟩ = some (.float .f64 (R k)) ∧ w'.cell? ⟨g', k * 2 + 1, none⟩ = some (.float .f64 (D k))) (simp [go_sem, *]) (first | (go_at_call 9; refine (placeIs_any _ _ _).mono ?_; rintro e w' ⟨rfl, rfl⟩))
      go_wp2
      go_roundw
      case rel => exact ⟨k + 1, by omega, by go_num, (hbel.alloc hsz _).drew⟩
      case measure => simp [intOf]; omega
    · go_wp2
      go_ret
      exact ⟨rfl, hbel⟩
end Go.Proofs.Qxb6609382a.W
