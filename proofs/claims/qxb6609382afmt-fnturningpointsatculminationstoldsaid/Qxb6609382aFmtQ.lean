import Derived.Test.Qxb6609382aFmtQa
namespace Go.Proofs.Qxb6609382aFmt.W
open Go.RowKit Go.Proofs.Qxb6609382aFmt.Fl
attribute [local go_sem] run_store_float

set_option maxHeartbeats 8000000 in
set_option maxRecDepth 100000 in
theorem turns_walk {dec h0 sa sl cl : Nat} {δ η α σ κ : Rat} (H : DayOK dec h0 sa sl cl δ η α σ κ) (b5 b6 cg cc n : Nat) (k : Int) (T Hh : Nat → Nat) (B : Nat) (hC : Culms η k n T Hh) (hS : Sep η)
    (w : World) (hg : Glob w) (c5 : w.cell? ⟨b5, 0, none⟩ = some (.float .f64 dec)) (c6 : w.cell? ⟨b6, 0, none⟩ = some (.float .f64 h0)) (hcs : w.ownsRow B 47 4 (.slice (some ⟨cg, 0, none⟩) n cc) n (cells4 T Hh dec k n)) :
    Calls Tryf.prog 20 #[dayV b5 b6 sa sl cl, .slice (some ⟨cg, 0, none⟩) n cc] w fun e w' => IsTurns η k dec w.heap.size n T e w' ∧ Below w.heap.size w w' := by
  have l5 := lt_of_cell c5
  have l6 := lt_of_cell c6
  obtain ⟨i43, hi43, hz43, hs43, hb43⟩ := info_parts i43
  obtain ⟨hall, hlt, hge, n1, n4, hbk⟩ := hC
  have hA : ∀ m, m < n → At η k m (T m) := fun m hm => At_of (hall m hm)
  obtain ⟨i22, hi22, hz22, hs22, hb22⟩ := info_parts i22
  obtain ⟨i4', hi4, hz4, hs4, hb4⟩ := info_parts i4b
  have hcell : ∀ m, m < n → w.cell? ⟨cg, m * 4, none⟩ = some (.float .f64 (T m)) ∧ w.cell? ⟨cg, m * 4 + 1, none⟩ = some (.float .f64 dec) ∧ w.cell? ⟨cg, m * 4 + 2, none⟩ = some (.float .f64 (Hh m)) ∧ w.cell? ⟨cg, m * 4 + 3, none⟩ = some (.bool (decide ((k + m) % 2 = 0))) := fun m hm => by
    obtain ⟨h1, h2, h3, h4⟩ := cells4_at T Hh dec k n m hm
    exact ⟨own_cell hcs h1, own_cell hcs h2, own_cell hcs h3, own_cell hcs h4⟩
  have lcg : cg < w.heap.size := lt_of_cell (hcell 0 (by omega)).1
  have hbox : ∀ W, Wld (w.heap.size + 1) (w.alloc (.cells #[.nilFunc, .func (.func 17) #[] #[.pointer (some ⟨b5, 0, none⟩), .pointer (some ⟨b6, 0, none⟩)], .float .f64 sa, .float .f64 sl, .float .f64 cl] 31)) W → W.cell? ⟨w.heap.size, 0, none⟩ = some .nilFunc ∧ W.cell? ⟨w.heap.size, 1, none⟩ = some (.func (.func 17) #[] #[.pointer (some ⟨b5, 0, none⟩), .pointer (some ⟨b6, 0, none⟩)]) ∧ W.cell? ⟨w.heap.size, 2, none⟩ = some (.float .f64 sa) ∧ W.cell? ⟨w.heap.size, 3, none⟩ = some (.float .f64 sl) ∧ W.cell? ⟨w.heap.size, 4, none⟩ = some (.float .f64 cl) ∧ W.cell? ⟨b5, 0, none⟩ = some (.float .f64 dec) ∧ W.cell? ⟨b6, 0, none⟩ = some (.float .f64 h0) := fun W hW =>
    ⟨hW.cell (by omega) (by simp [go_sem]), hW.cell (by omega) (by simp [go_sem]), hW.cell (by omega) (by simp [go_sem]), hW.cell (by omega) (by simp [go_sem]), hW.cell (by omega) (by simp [go_sem]), hW.cell (by omega) (cell_al c5 _), hW.cell (by omega) (cell_al c6 _)⟩
  have hcul : ∀ W, Wld (w.heap.size + 1) (w.alloc (.cells #[.nilFunc, .func (.func 17) #[] #[.pointer (some ⟨b5, 0, none⟩), .pointer (some ⟨b6, 0, none⟩)], .float .f64 sa, .float .f64 sl, .float .f64 cl] 31)) W → ∀ m, m < n → W.cell? ⟨cg, m * 4, none⟩ = some (.float .f64 (T m)) ∧ W.cell? ⟨cg, m * 4 + 1, none⟩ = some (.float .f64 dec) ∧ W.cell? ⟨cg, m * 4 + 2, none⟩ = some (.float .f64 (Hh m)) ∧ W.cell? ⟨cg, m * 4 + 3, none⟩ = some (.bool (decide ((k + m) % 2 = 0))) := fun W hW m hm => by
    obtain ⟨h1, h2, h3, h4⟩ := hcell m hm
    exact ⟨hW.cell (by omega) (cell_al h1 _), hW.cell (by omega) (cell_al h2 _), hW.cell (by omega) (cell_al h3 _), hW.cell (by omega) (cell_al h4 _)⟩
  have hst := Wld.alloc1 w (.cells #[.nilFunc, .func (.func 17) #[] #[.pointer (some ⟨b5, 0, none⟩), .pointer (some ⟨b6, 0, none⟩)], .float .f64 sa, .float .f64 sl, .float .f64 cl] 31)
  have hdone : ∀ W, Wld (w.heap.size + 1) (w.alloc (.cells #[.nilFunc, .func (.func 17) #[] #[.pointer (some ⟨b5, 0, none⟩), .pointer (some ⟨b6, 0, none⟩)], .float .f64 sa, .float .f64 sl, .float .f64 cl] 31)) W → Below w.heap.size w W := fun W h => h.done
  go_enter Tryf.func20, Tryf.ntmps20
  go_wp2_with fail
  go_loopw [6, 7, 8] (fun v6 v7 _ wr => ∃ i : Nat, i < n ∧ v7 = .int .i64 ((i + 1 : Nat) : Int) ∧ wr.ownsRow (w.heap.size + 1) 22 1 v6 (els T i).length ((els T i).map (.float .f64 ·)) ∧ Wld (w.heap.size + 1) (w.alloc (.cells #[.nilFunc, .func (.func 17) #[] #[.pointer (some ⟨b5, 0, none⟩), .pointer (some ⟨b6, 0, none⟩)], .float .f64 sa, .float .f64 sl, .float .f64 cl] 31)) wr) (fun _ i _ _ => 8 - (intOf i).toNat)
  case atStart => exact ⟨0, by omega, rfl, by have := World.ownsRow_lit (base := w.heap.size + 1) (e := 22) (size := 1) (w.alloc (.cells #[.nilFunc, .func (.func 17) #[] #[.pointer (some ⟨b5, 0, none⟩), .pointer (some ⟨b6, 0, none⟩)], .float .f64 sa, .float .f64 sl, .float .f64 cl] 31)) #[.float .f64 0] 1 (by simp) (by unfold maxLen; omega) rfl; simpa [els] using this, hst.alloc _⟩
  case round =>
    rename World => wA
    obtain ⟨i, hin, rfl, hown, hwA⟩ := hrel
    have i4 : i < 4 := by omega
    by_cases hlast : i + 1 < n
    · obtain ⟨s, e1, e2, hcase⟩ := mid_case hA hlast
      have f1 := runAdd e1
      have f2 := runDiv e2
      obtain ⟨m0, _⟩ := hcul wA hwA i hin
      obtain ⟨m1, _⟩ := hcul wA hwA (i + 1) hlast
      have lw : IntKind.i64.wrap (((i + 1 : Nat) : Int) - 1) = (i : Int) := by rw [IntKind.wrap_i64]; omega
      have ltn : ((i + 1 : Nat) : Int) < (n : Int) := by omega
      have ge0 : (0 : Int) ≤ ((i + 1 : Nat) : Int) := by omega
      have ltn' : (i : Int) < (n : Int) := by omega
      have ge0' : (0 : Int) ≤ (i : Int) := by omega
      go_upto_region 5 with fail
      go_quiet (fail)
      rcases hcase with ⟨o1, o2, hel⟩ | ⟨o1, o2, hel⟩ | ⟨o1, hel⟩
      · go_wp2_with (at_builtin; refine wpList_append_lies _ rfl (.tmp 51) (.tmp 53) 24 rfl (w.heap.size + 1) 22 i22 _ 1 8 Tryf.underlying24 hi22 hz22 hs22 hb22 rfl (by decide) u6 _ _ rfl ((own_keep hown (below_drewN (Below.refl _ _) _)).alloc _) ⟨wA.heap.size, 0, none⟩ 1 1 [.float .f64 (mdW (T i) (T (i + 1)))] rfl rfl (one_lies rfl) one_cell (by omega) (by have := els_len T i; unfold maxLen; omega) (by have := els_len T i; omega) (by have := hwA.size; simp; omega) _ rfl ?_; intro g' c' w2 hown2 hgrow2 hat hlt2)
        have hB2 : Below (w.heap.size + 1) wA w2 := ((below_drewN (Below.refl (w.heap.size + 1) wA) _).alloc hwA.size _).grown hgrow2 (by have := hwA.size; simp; omega) (own_ge hown)
        go_roundw
        case rel => exact ⟨i + 1, hlast, by go_num, by rw [hel, List.map_append, List.length_append]; exact hown2, hwA.below.trans hB2, Nat.le_trans hwA.size hB2.size⟩
        case measure => simp [intOf]; omega
      · go_wp2_with fail
        go_roundw
        case rel => exact ⟨i + 1, hlast, by go_num, by rw [hel]; exact own_keep hown (below_drewN (Below.refl _ _) _), hwA.drewN _⟩
        case measure => simp [intOf]; omega
      · go_wp2_with fail
        go_roundw
        case rel => exact ⟨i + 1, hlast, by go_num, by rw [hel]; exact own_keep hown (below_drewN (Below.refl _ _) _), hwA.drewN _⟩
        case measure => simp [intOf]; omega
    · obtain rfl : n = i + 1 := by omega
      have hlen := els_len T i
      generalize hL0 : (els T i).length = L0 at hown hlen
      have gen : ((i + 1 : Nat) : Int) = ((i + 1 : Nat) : Int) := rfl
      go_upto_region 10 with (first | (at_builtin; refine wpList_append_lies _ rfl (.tmp 55) (.tmp 56) 24 rfl (w.heap.size + 1) 22 i22 _ 1 8 Tryf.underlying24 hi22 hz22 hs22 hb22 rfl (by decide) u6 _ _ rfl (hown.alloc _) ⟨wA.heap.size, 0, none⟩ 1 1 [.float .f64 4607182418800017408] rfl rfl (one_lies rfl) one_cell (by omega) (by unfold maxLen; omega) (by omega) (by have := hwA.size; simp; omega) _ rfl ?_; intro g1 c1 w1 hown1 hgrow1 hat1 hlt1) | (refine wpList_make_full _ rfl _ _ 63 rfl w1.heap.size 4 i4' _ 1 Tryf.underlying63 hi4 hz4 hs4 .i64 .i64 _ _ (L0 + 1) rfl rfl (by omega) (by omega) (by rw [hb4]; omega) (by unfold maxLen; omega) (Nat.le_refl _) ?_; intro w2 hown2 hgrow2))
      have hB1 : Below (w.heap.size + 1) wA w1 := ((Below.refl (w.heap.size + 1) wA).alloc hwA.size _).grown hgrow1 (by have := hwA.size; simp; omega) (own_ge hown)
      have hw1 : Wld (w.heap.size + 1) (w.alloc (.cells #[.nilFunc, .func (.func 17) #[] #[.pointer (some ⟨b5, 0, none⟩), .pointer (some ⟨b6, 0, none⟩)], .float .f64 sa, .float .f64 sl, .float .f64 cl] 31)) w1 := ⟨hwA.below.trans hB1, Nat.le_trans hwA.size hB1.size⟩
      have h12 : Below w1.heap.size w1 w2 := (Below.refl _ w1).grown hgrow2 (Nat.le_refl _) (by intro k hk; cases hk)
      have l12 : w1.heap.size < w2.heap.size := (hown2.lt w1.heap.size rfl).2
      obtain ⟨N, hE⟩ := ends_ok hA (fun m hm => by obtain ⟨τ, v1, v2⟩ := hlt m hm; rw [(fv_wv v1).2]; exact v2) (by obtain ⟨τ, v1, v2⟩ := hge; rw [(fv_wv v1).2]; exact v2) n1 n4 hbk hS
      have hEc : ∀ j, j < L0 + 1 → w1.cell? ⟨g1, j, none⟩ = some (.float .f64 ((els T i ++ [4607182418800017408]).getD j 0)) := fun j hj => own_cell hown1 (list_at (els T i) 4607182418800017408 j (by rw [hL0]; exact hj))
      have eii : i + 1 - 1 = i := by omega
      rw [eii, hL0] at hE
      generalize hEE : (fun j => (els T i ++ [4607182418800017408]).getD j 0) = E at hE
      have hEc' : ∀ j, j < L0 + 1 → w1.cell? ⟨g1, j, none⟩ = some (.float .f64 (E j)) := fun j hj => by rw [← hEE]; exact hEc j hj
      have hE0 : E 0 = 0 := by rw [← hEE]; exact els_head T _ i
      have hEL : E L0 = 4607182418800017408 := by rw [← hEE, ← hL0]; exact els_last T _ i
      have hBR : Hid (BRow w2 w1.heap.size (L0 + 1) (fun i => decide ((k + N i) % 2 = 0)) 0) := BRow.made hown2
      obtain ⟨x0, x1, x2, x3, x4, x5, x6⟩ := hbox w1 hw1
      have hcul1 := hcul w1 hw1
      have hg1 : Glob w1 := hg.below (hdone w1 hw1)
      have hd1 := hdone w1 hw1
      have h12' : Hid (Below w1.heap.size w1 w2) := h12
      clear hown hown1 hown2 hgrow1 hgrow2 hB1 hw1 h12 hbox hcul hdone hst hcell hwA hEc hEE hL0 hlast hat1 gen
      go_wp2_with fail
      go_loopw [10, 11, 12, 13, 63] (fun _ _ _ _ vi wr => ∃ j : Nat, j ≤ L0 + 1 ∧ vi = .int .i64 j ∧ Below w1.heap.size w1 wr ∧ BRow wr w1.heap.size (L0 + 1) (fun i => decide ((k + N i) % 2 = 0)) j ∧ w1.heap.size < wr.heap.size) (fun _ _ _ _ i _ => 8 - (intOf i).toNat)
      case atStart => exact ⟨0, by omega, rfl, h12'.out, hBR.out, l12⟩
      case round =>
        rename World => wB
        obtain ⟨j, hj, rfl, hbB, hbr, hlB⟩ := hrel
        have y0 := cell_in hbB x0
        have y1 := cell_in hbB x1
        have y2 := cell_in hbB x2
        have y3 := cell_in hbB x3
        have y4 := cell_in hbB x4
        by_cases hjl : j < L0 + 1
        · have ye := cell_in hbB (hEc' j hjl)
          have hR := climb_any H b5 b6 (E j) (N j) k (hE.each j hjl) wB (hg1.below hbB) (cell_in hbB x5) (cell_in hbB x6)
          generalize hcb : decide ((k + (N j : Int)) % 2 = 0) = cb at hR
          have j0 : (0 : Int) ≤ (j : Int) := by omega
          have j1 : (j : Int) < ((L0 + 1 : Nat) : Int) := by omega
          go_wp2_with (go_at_call 25; refine hR.mono ?_; rintro e w' ⟨⟨v, r, rfl, hcl⟩, hbl⟩; have hbr' := hbr.far hbl hlB; obtain ⟨xb, hxb⟩ := hbr'.there j hjl; have hfz := hbr'.free j hjl; have hbC := hbB.trans (hbl.mono hbB.size); have hlC : w1.heap.size < w'.heap.size := Nat.lt_of_lt_of_le hlB hbl.size)
          go_roundw
          case rel => exact ⟨j + 1, by omega, by go_num, hbC.setCell (Nat.le_refl _) _, by have := hbr'.next hjl; simp only [hcb] at this; exact this, by simpa using hlC⟩
          case measure => simp [intOf]; omega
        · have hjn : ¬ (j : Int) < (L0 : Int) + 1 := by omega
          have hclb : ∀ q, q < L0 + 1 → wB.cell? ⟨w1.heap.size, q, none⟩ = some (.bool (decide ((k + N q) % 2 = 0))) := fun q hq => hbr.set q (by omega)
          have hgB : Glob wB := hg1.below hbB
          have y5 := cell_in hbB x5
          have y6 := cell_in hbB x6
          have hEB : ∀ j, j < L0 + 1 → wB.cell? ⟨g1, j, none⟩ = some (.float .f64 (E j)) := fun j hj => cell_in hbB (hEc' j hj)
          have hcB : ∀ m, m < i + 1 → wB.cell? ⟨cg, m * 4, none⟩ = some (.float .f64 (T m)) ∧ wB.cell? ⟨cg, m * 4 + 1, none⟩ = some (.float .f64 dec) ∧ wB.cell? ⟨cg, m * 4 + 2, none⟩ = some (.float .f64 (Hh m)) ∧ wB.cell? ⟨cg, m * 4 + 3, none⟩ = some (.bool (decide ((k + m) % 2 = 0))) := fun m hm => by
            obtain ⟨h1, h2, h3, h4⟩ := hcul1 m hm
            exact ⟨cell_in hbB h1, cell_in hbB h2, cell_in hbB h3, cell_in hbB h4⟩
          have hdB : Below w.heap.size w wB := hd1.trans (hbB.mono hd1.size)
          clear hcul1 hEc' hbr hg1 hd1 x0 x1 x2 x3 x4 x5 x6 hBR h12' hbB hS hge hlt
          go_wp2_with fail
          go_loopw [14, 15, 16, 17, 18, 20, 21, 22] (fun v14 v15 _ _ _ _ _ _ wr => ∃ (q : Nat) (R Hr : Nat → Nat), q < L0 + 1 ∧ v15 = .int .i64 ((q : Int) + 1) ∧ N 0 ≤ N q ∧ wr.ownsRow wB.heap.size 43 3 v14 (N q - N 0) (cells3 R Hr dec (N q - N 0)) ∧ (∀ m, m < N q - N 0 → TurnOK η (T (N 0 + m)) (R m) (Hr m)) ∧ Below wB.heap.size wB wr) (fun _ i _ _ _ _ _ _ _ => 8 - (intOf i).toNat)
          case atStart => exact ⟨0, fun _ => 0, fun _ => 0, by omega, rfl, Nat.le_refl _, by rw [Nat.sub_self]; exact World.ownsRow_nil _ _ _ _, fun m hm => absurd hm (by omega), Below.refl _ _⟩
          case round =>
            rename World => wC
            obtain ⟨q, R, Hr, hq, rfl, hN0, hown, hturn, hbC⟩ := hrel
            by_cases hql : q + 1 < L0 + 1
            · have a0 := cell_in hbC (hclb q hq)
              have a1 := cell_in hbC (hclb (q + 1) hql)
              have a2 := cell_in hbC (hEB q hq)
              have a3 := cell_in hbC (hEB (q + 1) hql)
              have lw : IntKind.i64.wrap ((q : Int) + 1 - 1) = (q : Int) := by rw [IntKind.wrap_i64]; omega
              have lw' : IntKind.i64.wrap (q : Int) = (q : Int) := by rw [IntKind.wrap_i64]; omega
              have ltn : (q : Int) + 1 < ((L0 + 1 : Nat) : Int) := by omega
              have ge0 : (0 : Int) ≤ (q : Int) + 1 := by omega
              have ltn' : (q : Int) < ((L0 + 1 : Nat) : Int) := by omega
              have ge0' : (0 : Int) ≤ (q : Int) := by omega
              rcases hE.step q hql with hst | ⟨hst, hbrk⟩
              · rw [hst] at a1
                generalize decide ((k + (N q : Int)) % 2 = 0) = cb at a0 a1
                go_upto_region 20 with fail
                go_quiet (fail)
                go_wp2_with fail
                go_roundw
                case rel => exact ⟨q + 1, R, Hr, hql, by go_num, by omega, by rw [hst]; exact own_keep hown (below_drewN (Below.refl _ _) _), by rw [hst]; exact hturn, below_drewN hbC _⟩
                case measure => simp [intOf]; omega
              · have hle := ends_le hE (L0 - (q + 1)) (q + 1) (by omega)
                have hlN := hE.last
                rw [show q + 1 + (L0 - (q + 1)) = L0 by omega] at hle
                rw [show L0 + 1 - 1 = L0 by omega, show i + 1 - 1 = i by omega] at hlN
                have hmn : N q < i + 1 := by omega
                obtain ⟨s, md, D, e1, e2, hD, hcmp⟩ := brk_case hA hmn hbrk (hE.each q hq) (N (q + 1)) (hE.each (q + 1) hql)
                have f1 := runAdd e1
                have f2 := runDiv e2
                have hpar : decide ((k + (N (q + 1) : Int)) % 2 = 0) = !decide ((k + (N q : Int)) % 2 = 0) := by rw [hst, par_next]; congr 2; omega
                rw [hpar] at a1
                generalize hcb : decide ((k + (N q : Int)) % 2 = 0) = cb at a0 a1
                have hcbn : (cb == !cb) = false := by cases cb <;> rfl
                have z0 : wC.cell? ⟨cg, 0, none⟩ = some (.float .f64 (T 0)) := by simpa using cell_in hbC (hcB 0 (by omega)).1
                have i10 : (0 : Int) < ((i + 1 : Nat) : Int) := by omega
                go_upto_region 20 with fail
                go_quiet (fail)
                go_upto_region 21 with fail
                go_quiet (fail)
                go_wp2_with fail
                have hqL : q < L0 := by omega
                simp only [hqL, decide_true]
                go_loopw [18, 20, 112] (fun v18 _ vi wr => ∃ (p j : Nat), p ≤ i + 1 ∧ j < i + 1 ∧ vi = .int .i64 p ∧ v18 = .float .f64 (T j) ∧ (N q < p → j = N q) ∧ Below wC.heap.size wC wr) (fun _ _ i _ => 8 - (intOf i).toNat)
                case atStart => exact ⟨0, 0, by omega, by omega, rfl, rfl, fun h => absurd h (by omega), below_drewN (Below.refl _ _) _⟩
                case round =>
                  rename World => wD
                  obtain ⟨p, j, hp, hj, rfl, rfl, hpj, hbD⟩ := hrel
                  by_cases hpl : p < i + 1
                  · obtain ⟨h1, h2, h3, h4⟩ := hcB p hpl
                    have d1 := cell_in hbD (cell_in hbC h1)
                    have d2 := cell_in hbD (cell_in hbC h2)
                    have d3 := cell_in hbD (cell_in hbC h3)
                    have d4 := cell_in hbD (cell_in hbC h4)
                    generalize decide ((k + (p : Int)) % 2 = 0) = up at d4
                    have g1' := runSub (hD p hpl).1
                    have g2' := runSub (hD j hj).1
                    have ca := abs_any (D p) (hD p hpl).2
                    have cj := abs_any (D j) (hD j hj).2
                    have p0 : (0 : Int) ≤ (p : Int) := by omega
                    have p1 : (p : Int) < ((i + 1 : Nat) : Int) := by omega
                    have hcase := hcmp p j hpl hj hpj
                    have hszD : wC.heap.size ≤ wD.heap.size := hbD.size
                    clear hcB hclb hEB hcmp hD h1 h2 h3 h4 hE hA hturn hall
                    rcases hcase with ⟨o1, hn⟩ | ⟨o1, hn⟩
                    · go_wp2_with (first | (go_at_call 22; refine (ca _).mono ?_; rintro e w' ⟨rfl, hw⟩; rw [hw]; clear hw) | (go_at_call 22; refine (cj _).mono ?_; rintro e w' ⟨rfl, hw⟩; rw [hw]; clear hw))
                      go_roundw
                      case rel => exact ⟨p + 1, p, by omega, hpl, by go_num, rfl, hn, hbD.alloc hszD _⟩
                      case measure => simp [intOf]; omega
                    · go_wp2_with (first | (go_at_call 22; refine (ca _).mono ?_; rintro e w' ⟨rfl, hw⟩; rw [hw]; clear hw) | (go_at_call 22; refine (cj _).mono ?_; rintro e w' ⟨rfl, hw⟩; rw [hw]; clear hw))
                      go_roundw
                      case rel => exact ⟨p + 1, j, by omega, hj, by go_num, rfl, hn, hbD.alloc hszD _⟩
                      case measure => simp [intOf]; omega
                  · have hpn : ¬ (p : Int) < (i : Int) + 1 := by omega
                    obtain rfl := hpj (by omega)
                    have u0 := cell_in hbD (cell_in hbC y0)
                    have u1 := cell_in hbD (cell_in hbC y1)
                    have u2 := cell_in hbD (cell_in hbC y2)
                    have u3 := cell_in hbD (cell_in hbC y3)
                    have u4' := cell_in hbD (cell_in hbC y4)
                    have u5' := cell_in hbD (cell_in hbC y5)
                    have u6' := cell_in hbD (cell_in hbC y6)
                    have ub := cell_in hbD a0
                    have hgD : Glob wD := (hgB.below hbC).below hbD
                    have csol := fun nm W hg c5 c6 => solve_brk H nm b5 b6 (E q) (E (q + 1)) (i + 1) (N q) (N (q + 1)) k T cb hcb.symm (hA (N q) hmn) hbrk (hE.each q hq) (hE.each (q + 1) hql) W hg c5 c6
                    obtain ⟨mn, mx⟩ := brk_minmax hbrk
                    have bz := brk_z hbrk (hE.each q hq) (hE.each (q + 1) hql)
                    have hbBD : Below wB.heap.size wB wD := hbC.trans (hbD.mono hbC.size)
                    have hownD := own_keep hown hbD
                    have held : ∀ W, Wld wD.heap.size wD W → W.cell? ⟨w.heap.size, 0, none⟩ = some .nilFunc ∧ W.cell? ⟨w.heap.size, 1, none⟩ = some (.func (.func 17) #[] #[.pointer (some ⟨b5, 0, none⟩), .pointer (some ⟨b6, 0, none⟩)]) ∧ W.cell? ⟨w.heap.size, 2, none⟩ = some (.float .f64 sa) ∧ W.cell? ⟨w.heap.size, 3, none⟩ = some (.float .f64 sl) ∧ W.cell? ⟨w.heap.size, 4, none⟩ = some (.float .f64 cl) ∧ W.cell? ⟨b5, 0, none⟩ = some (.float .f64 dec) ∧ W.cell? ⟨b6, 0, none⟩ = some (.float .f64 h0) ∧ W.cell? ⟨w1.heap.size, q, none⟩ = some (.bool cb) ∧ Wld wD.heap.size wD W := fun W hW => ⟨hW.cell (lt_of_cell u0) u0, hW.cell (lt_of_cell u1) u1, hW.cell (lt_of_cell u2) u2, hW.cell (lt_of_cell u3) u3, hW.cell (lt_of_cell u4') u4', hW.cell (lt_of_cell u5') u5', hW.cell (lt_of_cell u6') u6', hW.cell (lt_of_cell ub) ub, hW⟩
                    have hstD := Wld.start wD
                    have ltq : (q : Int) < (L0 : Int) + 1 := by omega
                    clear hcB hclb hEB hcmp hD hown hE hA hall hbrk f1 f2 e1 e2
                    go_upto_region 29 with fail
                    go_cut [21, 22] from 137 to 154 (fun v21 v22 wd => ∃ r qr, v21 = .float .f64 r ∧ v22 = .nilIface ∧ fv r = some qr ∧ Bd (qr - wv (T (N q))) (2 / 100000000) ∧ Wld wD.heap.size wD wd)
                    case first =>
                      go_region_held3 (fun W => W.cell? ⟨w.heap.size, 0, none⟩ = some .nilFunc ∧ W.cell? ⟨w.heap.size, 1, none⟩ = some (.func (.func 17) #[] #[.pointer (some ⟨b5, 0, none⟩), .pointer (some ⟨b6, 0, none⟩)]) ∧ W.cell? ⟨w.heap.size, 2, none⟩ = some (.float .f64 sa) ∧ W.cell? ⟨w.heap.size, 3, none⟩ = some (.float .f64 sl) ∧ W.cell? ⟨w.heap.size, 4, none⟩ = some (.float .f64 cl) ∧ W.cell? ⟨b5, 0, none⟩ = some (.float .f64 dec) ∧ W.cell? ⟨b6, 0, none⟩ = some (.float .f64 h0) ∧ W.cell? ⟨w1.heap.size, q, none⟩ = some (.bool cb) ∧ Wld wD.heap.size wD W)
                        (first
                          | (refine held _ ?_; go_split_ands; (repeat (first | with_reducible assumption | with_reducible exact hstD | with_reducible refine Wld.drew ?_)) <;> fail))
                        (first
                          | (go_at_call 26; go_split_ands; (with_reducible refine Calls.mono (csol _ _ (hgD.below (Wld.below ‹Wld _ _ _›)) ?_ ?_) ?_; assumption; assumption); rintro e w' ⟨⟨r, qr, rfl, hr, hrz⟩, hbW⟩; have hWw := Wld.call ‹Wld wD.heap.size _ _› hbW))
                      all_goals (go_wp2_with fail; go_meet; case rel => (go_split_ands; exact ⟨_, _, rfl, rfl, hr, hrz, by with_reducible assumption⟩))
                    case rest =>
                      obtain ⟨r, qr, rfl, rfl, hr, hrz, hwd⟩ := hcut
                      obtain ⟨t0', t1', t2', t3', t4', t5', t6', t7', _⟩ := held wc hwd
                      obtain ⟨m', hw, e3, e4, hok⟩ := root_at H.h0 H.bh0 rfl hr hrz bz
                      have cat : Calls Tryf.prog 19 #[dayV b5 b6 sa sl cl, .float .f64 r] wc fun e w' => e = .returned (.agg #[.float .f64 r, .float .f64 dec, .float .f64 hw]) ∧ Below wc.heap.size wc w' := at_any r dec h0 m' hw b5 b6 sa sl cl e3 e4 wc t5' t6'
                      have hownE := own_keep hownD hwd.below
                      have hbE : Below wB.heap.size wB wc := hbBD.trans (hwd.below.mono hbBD.size)
                      have hszE : wB.heap.size ≤ wc.heap.size := hbE.size
                      have hNq : N (q + 1) - N 0 = N q - N 0 + 1 := by omega
                      have hN4 : N q - N 0 ≤ 4 := by omega
                      have hN0' : N 0 + (N q - N 0) = N q := by omega
                      have hturn' : Hid (∀ m, m < N (q + 1) - N 0 → TurnOK η (T (N 0 + m)) (if m = N q - N 0 then r else R m) (if m = N q - N 0 then hw else Hr m)) := by
                        rw [hNq]; exact turn_next hturn (by rw [hN0']; exact hok)
                      have hqq : Hid (N 0 ≤ N (q + 1)) := by show N 0 ≤ N (q + 1); omega
                      clear held csol hturn hownD hbBD hbD hbC hstD e3 e4 mn mx
                      go_wp2_with (first | (go_at_call 19; refine cat.mono ?_; rintro e w' ⟨rfl, hbW⟩; have hownF := own_keep hownE hbW; have hbF := hbE.trans (hbW.mono hszE); have hszF : wB.heap.size ≤ w'.heap.size := Nat.le_trans hszE hbW.size) | (at_builtin; refine wpList_append_lies _ rfl (.tmp 158) (.tmp 162) 36 rfl wB.heap.size 43 i43 _ 3 24 Tryf.underlying36 hi43 hz43 hs43 hb43 rfl (by decide) u14 (N q - N 0) _ rfl (hownF.alloc _) ⟨w'.heap.size, 0, none⟩ 1 1 (news3 r dec hw) rfl rfl (news3_cell rfl) news3_one (by omega) (by unfold maxLen; omega) (by omega) (by simp; omega) _ rfl ?_; intro g' c' w2 hown2 hgrow2 hat hlt2))
                      have hbG := (hbF.alloc hszF _).grown hgrow2 (by simp; omega) (own_ge hownF)
                      go_roundw
                      case rel => exact ⟨q + 1, fun m => if m = N q - N 0 then r else R m, fun m => if m = N q - N 0 then hw else Hr m, hql, by go_num, hqq.out, by rw [hNq, cells3_upd]; exact hown2, hturn'.out, hbG⟩
                      case measure => simp [intOf]; omega
            · obtain rfl : q = L0 := by omega
              have hlN := hE.last
              rw [show q + 1 - 1 = q by omega, show i + 1 - 1 = i by omega] at hlN
              rw [hlN] at hown hturn hN0
              have h00 := hE.each 0 (by omega)
              have hLL := hE.each q (by omega)
              rw [hE0] at h00
              rw [hEL, hlN] at hLL
              have hres : Hid (IsTurns η k dec w.heap.size (i + 1) T (.returned (.tuple #[u14, .nilIface])) wC) := ⟨u14, N 0, R, Hr, rfl, own_mono hown hdB.size, hturn, hE.first, hN0, h00, hLL⟩
              have hbz : Hid (Below w.heap.size w wC) := hdB.trans (hbC.mono hdB.size)
              clear hown hturn hE hclb hEB hcB
              go_wp2_with fail
              go_ret2
              exact ⟨hres.out, hbz.out⟩
end Go.Proofs.Qxb6609382aFmt.W
