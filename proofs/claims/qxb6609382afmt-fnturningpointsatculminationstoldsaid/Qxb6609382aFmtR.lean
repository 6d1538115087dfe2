import Derived.Test.Qxb6609382aFmtQ
namespace Go.Proofs.Qxb6609382aFmt.W
open Go.RowKit Go.Proofs.Qxb6609382aFmt.Fl
theorem run_store_nilF (P : Program) (w : World) (a : Addr) (m : Mode) : (store a .nilFunc m).run P w = stored P w a .nilFunc m := run_store P w a _ m rfl
theorem run_store_fn (P : Program) (w : World) (a : Addr) (m : Mode) (fn : Fn) (x y : Array Value) : (store a (.func fn x y) m).run P w = stored P w a (.func fn x y) m := run_store P w a _ m rfl
attribute [local go_sem] run_store_float run_store_nilF run_store_fn

/-- What the ten comparisons say. -/
def InDom (dec h0 sa sl cl : Nat) : Prop := (FloatKind.f64.format.order dec 13832806255468478464 == some .gt || FloatKind.f64.format.order dec 13832806255468478464 == some .eq) = true ∧ (FloatKind.f64.format.order dec 4609434218613702656 == some .lt || FloatKind.f64.format.order dec 4609434218613702656 == some .eq) = true ∧ (FloatKind.f64.format.order h0 13857576053419016192 == some .gt || FloatKind.f64.format.order h0 13857576053419016192 == some .eq) = true ∧ (FloatKind.f64.format.order h0 4634204016564240384 == some .lt || FloatKind.f64.format.order h0 4634204016564240384 == some .eq) = true ∧ (FloatKind.f64.format.order sa 13830554455654793216 == some .gt || FloatKind.f64.format.order sa 13830554455654793216 == some .eq) = true ∧ (FloatKind.f64.format.order sa 4607182418800017408 == some .lt || FloatKind.f64.format.order sa 4607182418800017408 == some .eq) = true ∧ (FloatKind.f64.format.order sl 13830554455654793216 == some .gt || FloatKind.f64.format.order sl 13830554455654793216 == some .eq) = true ∧ (FloatKind.f64.format.order sl 4607182418800017408 == some .lt || FloatKind.f64.format.order sl 4607182418800017408 == some .eq) = true ∧ (FloatKind.f64.format.order cl 4587366580439587226 == some .gt || FloatKind.f64.format.order cl 4587366580439587226 == some .eq) = true ∧ (FloatKind.f64.format.order cl 4607182418800017408 == some .lt || FloatKind.f64.format.order cl 4607182418800017408 == some .eq) = true

set_option maxHeartbeats 4000000 in
theorem domain_any (dec h0 sa sl cl : Nat) (w : World) :
    Calls Tryf.prog 5 #[.float .f64 dec, .float .f64 h0, .float .f64 sa, .float .f64 sl, .float .f64 cl] w fun e w' => ((e = .returned (.bool false)) ∨ (e = .returned (.bool true) ∧ InDom dec h0 sa sl cl)) ∧ w' = w := by
  cases c0 : (FloatKind.f64.format.order dec 13832806255468478464 == some .gt || FloatKind.f64.format.order dec 13832806255468478464 == some .eq)
  · go_enter Tryf.func5, Tryf.ntmps5
    go_wp2_with fail
    go_ret
    exact ⟨Or.inl rfl, rfl⟩
  cases c1 : (FloatKind.f64.format.order dec 4609434218613702656 == some .lt || FloatKind.f64.format.order dec 4609434218613702656 == some .eq)
  · go_enter Tryf.func5, Tryf.ntmps5
    go_wp2_with fail
    go_ret
    exact ⟨Or.inl rfl, rfl⟩
  cases c2 : (FloatKind.f64.format.order h0 13857576053419016192 == some .gt || FloatKind.f64.format.order h0 13857576053419016192 == some .eq)
  · go_enter Tryf.func5, Tryf.ntmps5
    go_wp2_with fail
    go_ret
    exact ⟨Or.inl rfl, rfl⟩
  cases c3 : (FloatKind.f64.format.order h0 4634204016564240384 == some .lt || FloatKind.f64.format.order h0 4634204016564240384 == some .eq)
  · go_enter Tryf.func5, Tryf.ntmps5
    go_wp2_with fail
    go_ret
    exact ⟨Or.inl rfl, rfl⟩
  cases c4 : (FloatKind.f64.format.order sa 13830554455654793216 == some .gt || FloatKind.f64.format.order sa 13830554455654793216 == some .eq)
  · go_enter Tryf.func5, Tryf.ntmps5
    go_wp2_with fail
    go_ret
    exact ⟨Or.inl rfl, rfl⟩
  cases c5 : (FloatKind.f64.format.order sa 4607182418800017408 == some .lt || FloatKind.f64.format.order sa 4607182418800017408 == some .eq)
  · go_enter Tryf.func5, Tryf.ntmps5
    go_wp2_with fail
    go_ret
    exact ⟨Or.inl rfl, rfl⟩
  cases c6 : (FloatKind.f64.format.order sl 13830554455654793216 == some .gt || FloatKind.f64.format.order sl 13830554455654793216 == some .eq)
  · go_enter Tryf.func5, Tryf.ntmps5
    go_wp2_with fail
    go_ret
    exact ⟨Or.inl rfl, rfl⟩
  cases c7 : (FloatKind.f64.format.order sl 4607182418800017408 == some .lt || FloatKind.f64.format.order sl 4607182418800017408 == some .eq)
  · go_enter Tryf.func5, Tryf.ntmps5
    go_wp2_with fail
    go_ret
    exact ⟨Or.inl rfl, rfl⟩
  cases c8 : (FloatKind.f64.format.order cl 4587366580439587226 == some .gt || FloatKind.f64.format.order cl 4587366580439587226 == some .eq)
  · go_enter Tryf.func5, Tryf.ntmps5
    go_wp2_with fail
    go_ret
    exact ⟨Or.inl rfl, rfl⟩
  cases c9 : (FloatKind.f64.format.order cl 4607182418800017408 == some .lt || FloatKind.f64.format.order cl 4607182418800017408 == some .eq)
  · go_enter Tryf.func5, Tryf.ntmps5
    go_wp2_with fail
    go_ret
    exact ⟨Or.inl rfl, rfl⟩
  go_enter Tryf.func5, Tryf.ntmps5
  go_wp2_with fail
  go_ret
  exact ⟨Or.inr ⟨rfl, c0, c1, c2, c3, c4, c5, c6, c7, c8, c9⟩, rfl⟩

theorem absf_any (x : Nat) (q : Rat) (hx : fv x = some q) (w : World) :
    Calls Tryf.prog 10 #[.float .f64 x] w fun e w' => (∃ r a, e = .returned (.float .f64 r) ∧ fv r = some a ∧ ((0 ≤ q ∧ a = q) ∨ (q < 0 ∧ a = -q))) ∧ w' = w := by
  have hng := runNeg
  by_cases h : q < 0
  · have o := ord_lt hx fv_zero h
    go_enter Tryf.func10, Tryf.ntmps10
    go_wp2_with fail
    go_ret
    exact ⟨⟨_, -q, rfl, neg_val hx, Or.inr ⟨h, rfl⟩⟩, rfl⟩
  · have o := ord_nltB hx fv_zero (by grind)
    go_enter Tryf.func10, Tryf.ntmps10
    go_wp2_with fail
    go_ret
    exact ⟨⟨x, q, rfl, hx, Or.inl ⟨by grind, rfl⟩⟩, rfl⟩

theorem sampT_any (t d h : Nat) (w : World) : Calls Tryf.prog 11 #[sampV t d h] w fun e w' => e = .returned (.float .f64 t) ∧ Below w.heap.size w w' := by
  go_enter Tryf.func11, Tryf.ntmps11
  go_wp2_with fail
  go_ret
  exact ⟨rfl, (Below.refl _ w).alloc (Nat.le_refl _) _⟩
theorem sampD_any (t d h : Nat) (w : World) : Calls Tryf.prog 12 #[sampV t d h] w fun e w' => e = .returned (.float .f64 d) ∧ Below w.heap.size w w' := by
  go_enter Tryf.func12, Tryf.ntmps12
  go_wp2_with fail
  go_ret
  exact ⟨rfl, (Below.refl _ w).alloc (Nat.le_refl _) _⟩
theorem sampH_any (t d h : Nat) (w : World) : Calls Tryf.prog 13 #[sampV t d h] w fun e w' => e = .returned (.float .f64 h) ∧ Below w.heap.size w w' := by
  go_enter Tryf.func13, Tryf.ntmps13
  go_wp2_with fail
  go_ret
  exact ⟨rfl, (Below.refl _ w).alloc (Nat.le_refl _) _⟩
theorem culmT_any (t d h : Nat) (u : Bool) (w : World) : Calls Tryf.prog 14 #[culmV t d h u] w fun e w' => e = .returned (.float .f64 t) ∧ Below w.heap.size w w' := by
  go_enter Tryf.func14, Tryf.ntmps14
  go_wp2_with fail
  go_ret
  exact ⟨rfl, (Below.refl _ w).alloc (Nat.le_refl _) _⟩
theorem culmU_any (t d h : Nat) (u : Bool) (w : World) : Calls Tryf.prog 16 #[culmV t d h u] w fun e w' => e = .returned (.bool u) ∧ Below w.heap.size w w' := by
  go_enter Tryf.func16, Tryf.ntmps16
  go_wp2_with fail
  go_ret
  exact ⟨rfl, (Below.refl _ w).alloc (Nat.le_refl _) _⟩

/-- The day's search is made: two boxes and the value. -/
theorem star_any (dec h0 sa sl cl : Nat) (w : World) :
    Calls Tryf.prog 7 #[.float .f64 dec, .float .f64 h0, .float .f64 sa, .float .f64 sl, .float .f64 cl] w fun e w' => e = .returned (dayV w.heap.size (w.heap.size + 1) sa sl cl) ∧ w'.cell? ⟨w.heap.size, 0, none⟩ = some (.float .f64 dec) ∧ w'.cell? ⟨w.heap.size + 1, 0, none⟩ = some (.float .f64 h0) ∧ Below w.heap.size w w' := by
  go_enter Tryf.func7, Tryf.ntmps7
  go_wp2_with fail
  exact bodyPost_ret (v := dayV w.heap.size (w.heap.size + 1) sa sl cl) (by simp [results, Tryf.results7, go_sem]) rfl ⟨rfl, by simp [go_sem], by simp [go_sem], (((Below.refl _ w).alloc (Nat.le_refl _) _).alloc (by simp) _).alloc (by simp; omega) _⟩

/-- The culminations as the law gets them. -/
def GotCulms (η : Rat) (dec B : Nat) (e : Ending) (w' : World) : Prop := ∃ (g c n : Nat) (k : Int) (T Hh : Nat → Nat), e = .returned (.tuple #[.slice (some ⟨g, 0, none⟩) n c, .bool false]) ∧ w'.ownsRow B 47 4 (.slice (some ⟨g, 0, none⟩) n c) n (cells4 T Hh dec k n) ∧ Culms η k n T Hh

set_option maxHeartbeats 4000000 in
theorem zculms_any {dec h0 sa sl cl : Nat} {δ η α σ κ : Rat} (H : DayOK dec h0 sa sl cl δ η α σ κ) (b5 b6 : Nat)
    (w : World) (g0 : w.cell? ⟨0, 0, none⟩ = some (.float .f64 4607157826112761935)) (g1 : w.cell? ⟨1, 0, none⟩ = some (.float .f64 4618779624111797601)) (c5 : w.cell? ⟨b5, 0, none⟩ = some (.float .f64 dec)) (c6 : w.cell? ⟨b6, 0, none⟩ = some (.float .f64 h0)) :
    Calls Tryf.prog 8 #[dayV b5 b6 sa sl cl] w fun e w' => GotCulms η dec w.heap.size e w' ∧ Below w.heap.size w w' := by
  have l5 := lt_of_cell c5
  have l6 := lt_of_cell c6
  have l1 := lt_of_cell g1
  have l0 := lt_of_cell g0
  obtain ⟨m, r, q, e1, e2, e3, e4, _⟩ := hour_wide fv_nought (Bd.zero (by decide +kernel)) H.h0 H.bh0
  have dq : Bd (q - η) (2 / 100000000000000) := by
    have x1 := e4.1; have x2 := e4.2
    exact ⟨by grind, by grind⟩
  have cat : ∀ W, W.cell? ⟨b5, 0, none⟩ = some (.float .f64 dec) → W.cell? ⟨b6, 0, none⟩ = some (.float .f64 h0) → Calls Tryf.prog 19 #[dayV b5 b6 sa sl cl, .float .f64 0] W fun e w' => e = .returned (sampV 0 dec r) ∧ Below W.heap.size W w' := fun W c5 c6 => at_any 0 dec h0 m r b5 b6 sa sl cl e1 e2 W c5 c6
  have ccs := fun W g0 g1 c5 c6 => culms_walk H b5 b6 0 r q e3 dq W g0 g1 c5 c6
  have held : ∀ W, Wld (w.heap.size + 1) (w.alloc (.cells #[.nilFunc, .func (.func 17) #[] #[.pointer (some ⟨b5, 0, none⟩), .pointer (some ⟨b6, 0, none⟩)], .float .f64 sa, .float .f64 sl, .float .f64 cl] 31)) W → W.cell? ⟨w.heap.size, 0, none⟩ = some .nilFunc ∧ W.cell? ⟨w.heap.size, 1, none⟩ = some (.func (.func 17) #[] #[.pointer (some ⟨b5, 0, none⟩), .pointer (some ⟨b6, 0, none⟩)]) ∧ W.cell? ⟨w.heap.size, 2, none⟩ = some (.float .f64 sa) ∧ W.cell? ⟨w.heap.size, 3, none⟩ = some (.float .f64 sl) ∧ W.cell? ⟨w.heap.size, 4, none⟩ = some (.float .f64 cl) ∧ W.cell? ⟨b5, 0, none⟩ = some (.float .f64 dec) ∧ W.cell? ⟨b6, 0, none⟩ = some (.float .f64 h0) ∧ W.cell? ⟨1, 0, none⟩ = some (.float .f64 4618779624111797601) ∧ W.cell? ⟨0, 0, none⟩ = some (.float .f64 4607157826112761935) ∧ Wld (w.heap.size + 1) (w.alloc (.cells #[.nilFunc, .func (.func 17) #[] #[.pointer (some ⟨b5, 0, none⟩), .pointer (some ⟨b6, 0, none⟩)], .float .f64 sa, .float .f64 sl, .float .f64 cl] 31)) W := fun W hW =>
    ⟨hW.cell (by omega) (by simp [go_sem]), hW.cell (by omega) (by simp [go_sem]), hW.cell (by omega) (by simp [go_sem]), hW.cell (by omega) (by simp [go_sem]), hW.cell (by omega) (by simp [go_sem]), hW.cell (by omega) (cell_al c5 _), hW.cell (by omega) (cell_al c6 _), hW.cell (by omega) (cell_al g1 _), hW.cell (by omega) (cell_al g0 _), hW⟩
  have hst := Wld.alloc1 w (.cells #[.nilFunc, .func (.func 17) #[] #[.pointer (some ⟨b5, 0, none⟩), .pointer (some ⟨b6, 0, none⟩)], .float .f64 sa, .float .f64 sl, .float .f64 cl] 31)
  clear e1 e2
  go_enter Tryf.func8, Tryf.ntmps8
  go_upto_region 1 with fail
  go_cut [4, 5] from 6 to 12 (fun v4 v5 wd => v5 = .nilIface ∧ (∃ (g c n : Nat) (k : Int) (T Hh : Nat → Nat), v4 = .slice (some ⟨g, 0, none⟩) n c ∧ wd.ownsRow w.heap.size 47 4 (.slice (some ⟨g, 0, none⟩) n c) n (cells4 T Hh dec k n) ∧ Culms η k n T Hh) ∧ Wld (w.heap.size + 1) (w.alloc (.cells #[.nilFunc, .func (.func 17) #[] #[.pointer (some ⟨b5, 0, none⟩), .pointer (some ⟨b6, 0, none⟩)], .float .f64 sa, .float .f64 sl, .float .f64 cl] 31)) wd)
  case first =>
    go_region_held3 (fun W => W.cell? ⟨w.heap.size, 0, none⟩ = some .nilFunc ∧ W.cell? ⟨w.heap.size, 1, none⟩ = some (.func (.func 17) #[] #[.pointer (some ⟨b5, 0, none⟩), .pointer (some ⟨b6, 0, none⟩)]) ∧ W.cell? ⟨w.heap.size, 2, none⟩ = some (.float .f64 sa) ∧ W.cell? ⟨w.heap.size, 3, none⟩ = some (.float .f64 sl) ∧ W.cell? ⟨w.heap.size, 4, none⟩ = some (.float .f64 cl) ∧ W.cell? ⟨b5, 0, none⟩ = some (.float .f64 dec) ∧ W.cell? ⟨b6, 0, none⟩ = some (.float .f64 h0) ∧ W.cell? ⟨1, 0, none⟩ = some (.float .f64 4618779624111797601) ∧ W.cell? ⟨0, 0, none⟩ = some (.float .f64 4607157826112761935) ∧ Wld (w.heap.size + 1) (w.alloc (.cells #[.nilFunc, .func (.func 17) #[] #[.pointer (some ⟨b5, 0, none⟩), .pointer (some ⟨b6, 0, none⟩)], .float .f64 sa, .float .f64 sl, .float .f64 cl] 31)) W)
      (first
        | (refine held _ ?_; go_split_ands; (repeat (first | with_reducible assumption | with_reducible exact hst | with_reducible refine Wld.drew ?_)) <;> fail))
      (first
        | (go_at_call 19; go_split_ands; (with_reducible refine Calls.mono (cat _ ?_ ?_) ?_; assumption; assumption); rintro e w' ⟨rfl, hbW⟩; have hWw := Wld.call ‹Wld (w.heap.size + 1) _ _› hbW)
        | (go_at_call 18; go_split_ands; (with_reducible refine Calls.mono (ccs _ ?_ ?_ ?_ ?_) ?_; assumption; assumption; assumption; assumption); rintro e w' ⟨⟨g, c, n, k, T, Hh, rfl, hown, hC⟩, hbW⟩; have hWw := Wld.call ‹Wld (w.heap.size + 1) _ _› hbW; have hszz := Wld.size ‹Wld (w.heap.size + 1) _ _›; have hown' := own_mono hown (show w.heap.size ≤ _ from Nat.le_trans (Nat.le_succ _) (Wld.size ‹Wld (w.heap.size + 1) _ _›))))
    all_goals (go_wp2_with fail; go_meet; case rel => (go_split_ands; exact ⟨rfl, ⟨g, c, n, k, T, Hh, rfl, hown', hC⟩, by with_reducible assumption⟩))
  case rest =>
    obtain ⟨rfl, ⟨g, c, n, k, T, Hh, rfl, hown, hC⟩, hwd⟩ := hcut
    have hdone := hwd.done
    go_upto_region 2 with fail
    go_quiet (fail)
    go_wp2_with fail
    go_ret2
    exact ⟨⟨g, c, n, k, T, Hh, rfl, own_keep hown (below_drewN (Below.refl _ _) _), hC⟩, below_drewN hdone _⟩

/-- The turning points as the law gets them. -/
def GotTurns (η : Rat) (k : Int) (dec B n : Nat) (T : Nat → Nat) (e : Ending) (w' : World) : Prop := ∃ (v : Value) (N0 : Nat) (R Hr : Nat → Nat), e = .returned (.tuple #[v, .bool false]) ∧ w'.ownsRow B 43 3 v (n - 1 - N0) (cells3 R Hr dec (n - 1 - N0)) ∧ (∀ m, m < n - 1 - N0 → TurnOK η (T (N0 + m)) (R m) (Hr m)) ∧ N0 ≤ 1 ∧ N0 ≤ n - 1 ∧ EndOK η k N0 0 ∧ EndOK η k (n - 1) 4607182418800017408

set_option maxHeartbeats 4000000 in
theorem zturns_any {dec h0 sa sl cl : Nat} {δ η α σ κ : Rat} (H : DayOK dec h0 sa sl cl δ η α σ κ) (b5 b6 cg cc n : Nat) (k : Int) (T Hh : Nat → Nat) (B : Nat) (hC : Culms η k n T Hh) (hS : Fl.Sep η)
    (w : World) (hg : Glob w) (c5 : w.cell? ⟨b5, 0, none⟩ = some (.float .f64 dec)) (c6 : w.cell? ⟨b6, 0, none⟩ = some (.float .f64 h0)) (hcs : w.ownsRow B 47 4 (.slice (some ⟨cg, 0, none⟩) n cc) n (cells4 T Hh dec k n)) :
    Calls Tryf.prog 9 #[dayV b5 b6 sa sl cl, .slice (some ⟨cg, 0, none⟩) n cc] w fun e w' => GotTurns η k dec w.heap.size n T e w' ∧ Below w.heap.size w w' := by
  have ct := turns_walk H b5 b6 cg cc n k T Hh B hC hS (w.alloc (.cells #[.nilFunc, .func (.func 17) #[] #[.pointer (some ⟨b5, 0, none⟩), .pointer (some ⟨b6, 0, none⟩)], .float .f64 sa, .float .f64 sl, .float .f64 cl] 31)) (hg.al _) (cell_al c5 _) (cell_al c6 _) (own_keep hcs ((Below.refl _ w).alloc (Nat.le_refl _) _))
  go_enter Tryf.func9, Tryf.ntmps9
  go_upto_region 2 with (go_at_call 20; refine ct.mono ?_; rintro e w' ⟨⟨v, N0, R, Hr, rfl, t1, t2, t3, t4, t5, t6⟩, hbW⟩)
  go_quiet (fail)
  go_wp2_with fail
  go_ret2
  exact ⟨⟨v, N0, R, Hr, rfl, own_keep (own_mono t1 (by simp)) (below_drewN (Below.refl _ _) _), t2, t3, t4, t5, t6⟩, below_drewN (((Below.refl w.heap.size w).alloc (Nat.le_refl _) _).trans (hbW.mono (by simp))) _⟩
end Go.Proofs.Qxb6609382aFmt.W
