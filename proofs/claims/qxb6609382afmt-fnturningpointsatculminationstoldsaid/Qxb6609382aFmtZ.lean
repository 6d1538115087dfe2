import Derived.Test.Qxb6609382aFmtY
namespace Go.Proofs.Qxb6609382aFmt.W
open Go.RowKit Go.Proofs.Qxb6609382aFmt.Fl
attribute [local go_sem] run_store_float run_store_nilF run_store_fn

set_option maxHeartbeats 8000000 in
set_option maxRecDepth 100000 in
theorem law4_walk (dec h0 sa sl cl : Nat) (b1 : dec < 18446744073709551616) (b2 : h0 < 18446744073709551616) (b3 : sa < 18446744073709551616) (b4 : sl < 18446744073709551616) (b5' : cl < 18446744073709551616)
    (w : World) (hg : Glob w) (g0 : w.cell? ⟨0, 0, none⟩ = some (.float .f64 4607157826112761935)) (g1 : w.cell? ⟨1, 0, none⟩ = some (.float .f64 4618779624111797601)) :
    Calls Tryf.prog 4 #[.float .f64 dec, .float .f64 h0, .float .f64 sa, .float .f64 sl, .float .f64 cl] w fun e w' => e = .returned (.bool true) ∧ Below w.heap.size w w' := by
  have cdom := domain_any dec h0 sa sl cl w
  obtain ⟨j3, hj3, hz3, hs3, hb3⟩ := info_parts i3
  go_enter Tryf.func4, Tryf.ntmps4
  go_wp2_with (go_at_call 5; refine cdom.mono ?_; rintro e w' ⟨hd, hw⟩; rw [hw]; clear hw; rcases hd with rfl | ⟨rfl, hin⟩)
  · go_ret
    exact ⟨rfl, Below.refl _ _⟩
  · obtain ⟨δ, η, α, σ, κ, H⟩ := dayOK_of hin b1 b2 b3 b4 b5'
    obtain ⟨lo, hi, hlh, hhi, hlo, hhi'⟩ := lohi H.h0 H.bh0
    refine (model_walk H.h0 H.bh0 lo hi hlh hhi hlo hhi' w).mono ?_
    rintro e w6 ⟨hm, hb6⟩
    rcases hm with rfl | ⟨vt, vh, rfl, hownT, hownH, hfar⟩
    · go_wp2_with fail
      go_ret
      exact ⟨rfl, hb6⟩
    · have hS := sep_of H.h0 H.bh0 hfar
      have G0 := cell_in hb6 g0
      have G1 := cell_in hb6 g1
      have hg6 := hg.below hb6
      clear hownT hownH hfar hlo hhi'
      go_wp2_with (first
        | (go_at_call 7; refine (star_any dec h0 sa sl cl w6).mono ?_; rintro e w7 ⟨rfl, c5, c6, hb7⟩)
        | (go_at_call 8; refine (zculms_any H w6.heap.size (w6.heap.size + 1) _ (cell_al (cell_in hb7 G0) _) (cell_al (cell_in hb7 G1) _) (cell_al c5 _) (cell_al c6 _)).mono ?_; rintro e w8 ⟨⟨g, c, n, k, T, Hh, rfl, hownC, hC⟩, hb8⟩; have x0 := cell_in hb8 (b := w7.heap.size) (o := 0) (v := .nilFunc) (by simp); have x1 := cell_in hb8 (b := w7.heap.size) (o := 1) (v := .func (.func 17) #[] #[.pointer (some ⟨w6.heap.size, 0, none⟩), .pointer (some ⟨w6.heap.size + 1, 0, none⟩)]) (by simp); have x2 := cell_in hb8 (b := w7.heap.size) (o := 2) (v := .float .f64 sa) (by simp); have x3 := cell_in hb8 (b := w7.heap.size) (o := 3) (v := .float .f64 sl) (by simp); have x4 := cell_in hb8 (b := w7.heap.size) (o := 4) (v := .float .f64 cl) (by simp)))
      obtain ⟨N0, hN01, hM23, hN0n, hneg, hpos, hl1, hg1', hEq⟩ := day_ix hC
      have hg8 := ((hg6.below hb7).al _).below hb8
      have y5 := cell_in hb8 (cell_al c5 _)
      have y6 := cell_in hb8 (cell_al c6 _)
      have hb08 : Below w.heap.size w w8 := by
        have h1 := hb6.trans (hb7.mono hb6.size)
        have h2 := h1.alloc h1.size (.cells #[.nilFunc, .func (.func 17) #[] #[.pointer (some ⟨w6.heap.size, 0, none⟩), .pointer (some ⟨w6.heap.size + 1, 0, none⟩)], .float .f64 sa, .float .f64 sl, .float .f64 cl] 31)
        exact h2.trans (hb8.mono h2.size)
      have hcC : ∀ m, m < n → w8.cell? ⟨g, m * 4, none⟩ = some (.float .f64 (T m)) ∧ w8.cell? ⟨g, m * 4 + 1, none⟩ = some (.float .f64 dec) ∧ w8.cell? ⟨g, m * 4 + 2, none⟩ = some (.float .f64 (Hh m)) ∧ w8.cell? ⟨g, m * 4 + 3, none⟩ = some (.bool (decide ((k + m) % 2 = 0))) := fun m hm => by
        obtain ⟨h1, h2, h3, h4⟩ := cells4_at T Hh dec k n m hm
        exact ⟨own_cell hownC h1, own_cell hownC h2, own_cell hownC h3, own_cell hownC h4⟩
      have hn4 : n ≤ 4 := hC.2.2.2.2.1
      clear hb6 hb7 hb8 G0 G1 hg6 c5 c6
      go_loopw [17, 18, 19] (fun v17 v18 _ wr => ∃ i : Nat, i ≤ n ∧ v18 = .int .i64 i ∧ wr.ownsRow w8.heap.size 3 1 v17 (min i (n - 1) - N0) (cellsI N0 (min i (n - 1) - N0)) ∧ Below w8.heap.size w8 wr) (fun _ i _ _ => 8 - (intOf i).toNat)
      case atStart => exact ⟨0, by omega, rfl, by rw [show min 0 (n - 1) - N0 = 0 by omega]; exact World.ownsRow_nil _ _ _ _, Below.refl _ _⟩
      case round =>
        rename World => wA
        obtain ⟨i, hin', rfl, hownI, hbA⟩ := hrel
        have i0 : (0 : Int) ≤ (i : Int) := by omega
        by_cases hil : i < n
        · have i1 : (i : Int) < (n : Int) := by omega
          obtain ⟨d1, d2, d3, d4⟩ := hcC i hil
          have a1 := cell_in hbA d1
          have a2 := cell_in hbA d2
          have a3 := cell_in hbA d3
          have a4 := cell_in hbA d4
          generalize hub : decide ((k + (i : Int)) % 2 = 0) = ub at a4 d4
          by_cases hL : i < N0
          · obtain ⟨v1, v2⟩ := hneg i hL
            have o1 := ord_ngtB v1 fv_zero v2
            go_wp2_with (go_at_call 14; refine (culmT_any (T i) dec (Hh i) ub _).mono ?_; rintro e wB ⟨rfl, hbB⟩)
            go_roundw
            case rel => exact ⟨i + 1, by omega, by go_num, by rw [show min (i + 1) (n - 1) - N0 = min i (n - 1) - N0 by omega]; exact own_keep hownI hbB, hbA.trans (hbB.mono hbA.size)⟩
            case measure => simp [intOf]; omega
          · obtain ⟨v1, v2⟩ := hpos i (by omega) hil
            have o1 := ord_gt v1 fv_zero v2
            by_cases hR : i + 1 < n
            · have o2 := ord_lt v1 fv_one (hl1 i hR)
              have ec : min i (n - 1) - N0 = i - N0 := by omega
              have ec' : min (i + 1) (n - 1) - N0 = i - N0 + 1 := by omega
              rw [ec] at hownI
              have ej : ((N0 + (i - N0) : Nat) : Int) = (i : Int) := by omega
              go_wp2_with (first
                | (go_at_call 14; refine (culmT_any (T i) dec (Hh i) ub _).mono ?_; rintro e wB ⟨rfl, hbB⟩; have hownB := own_keep hownI hbB; have hbB' := hbA.trans (hbB.mono hbA.size); have hszB := hbB'.size)
                | (at_builtin; refine wpList_append_lies _ rfl (.tmp 71) (.tmp 73) 44 rfl w8.heap.size 3 j3 _ 1 8 Tryf.underlying44 hj3 hz3 hs3 hb3 rfl (by decide) u17 (i - N0) _ rfl (hownB.alloc _) ⟨wB.heap.size, 0, none⟩ 1 1 [.int .i64 (i : Int)] rfl rfl (one_liesI rfl) one_cellI (by omega) (by unfold maxLen; omega) (by omega) (by simp; omega) _ rfl ?_; intro q1 c1 w1 hown1 hgrow1 hat1 hlt1))
              have hB1 := ((hbB'.alloc hszB (.cells #[.int .i64 (i : Int)] 3)).grown hgrow1 (by simp; omega) (own_ge hownB))
              go_roundw
              case rel => exact ⟨i + 1, by omega, by go_num, by rw [ec']; rw [cellsI, ej]; exact hown1, hB1⟩
              case measure => simp [intOf]; omega
            · have o2 := ord_nltB v1 fv_one (by rw [show i = n - 1 by omega]; exact hg1')
              go_wp2_with (go_at_call 14; refine (culmT_any (T i) dec (Hh i) ub _).mono ?_; rintro e wB ⟨rfl, hbB⟩)
              go_roundw
              case rel => exact ⟨i + 1, by omega, by go_num, by rw [show min (i + 1) (n - 1) - N0 = min i (n - 1) - N0 by omega]; exact own_keep hownI hbB, hbA.trans (hbB.mono hbA.size)⟩
              case measure => simp [intOf]; omega
        · have hiN : ¬ (i : Int) < (n : Int) := by omega
          rw [show min i (n - 1) - N0 = n - 1 - N0 by omega] at hownI
          have hM0 : 0 < n - 1 - N0 := by omega
          have hMlt : N0 + (n - 1 - N0) < n := by omega
          obtain ⟨M, hM⟩ : ∃ M, Hid (n - 1 - N0 = M) := ⟨_, rfl⟩
          rw [hM.out] at hownI hM23 hM0 hMlt
          have m2 : ¬ (M : Int) < 2 := by omega
          have m3 : ¬ (3 : Int) < (M : Int) := by omega
          obtain ⟨gi, ci, rfl, _, _⟩ := hownI.form hM0
          have z0 := cell_in hbA x0
          have z1 := cell_in hbA x1
          have z2 := cell_in hbA x2
          have z3 := cell_in hbA x3
          have z4 := cell_in hbA x4
          have hgA := hg8.below hbA
          have y5' := cell_in hbA y5
          have y6' := cell_in hbA y6
          have hownC' := own_keep hownC hbA
          go_upto_region 20 with (go_at_call 9; refine (zturns_any H w6.heap.size (w6.heap.size + 1) g c n k T Hh _ hC hS wA hgA y5' y6' hownC').mono ?_; rintro e w9 ⟨⟨vs, N1, R, Hr, rfl, hownS, hturn, hN1, hN2, hE1, hE2⟩, hb9⟩)
          obtain rfl := hEq N1 hN1 hE1
          rw [hM.out] at hownS hturn
          obtain ⟨gs, cs, rfl, _, _⟩ := hownS.form hM0
          have hI9 := own_keep hownI hb9
          have hC9 := own_keep hownC' hb9
          have hbk := hC.2.2.2.2.2
          have hallC := hC.1
          have hbh := H.bh0
          have hfit : ∀ i, i < M → (∃ d x, Ieee.double.sub (R i) (T (N1 + i)) = some d ∧ fv d = some x ∧ Bd x (wv 4502148214488346440)) ∧ ∀ w, Calls Tryf.prog 15 #[.float .f64 (Hr i)] w fun e w' => (∃ r, e = .returned (.tuple #[.float .f64 r, .bool true]) ∧ TzFit (k + ((N1 + i : Nat) : Int)) r) ∧ w' = w := fun i hi => by
            obtain ⟨h1, q, h2, h3, h4, h5⟩ := turn_at (m := N1 + i) hbh hbk (by omega) (hallC (N1 + i) (by omega)) (hturn i hi)
            exact ⟨h1, fun w => tz_fit (Hr i) q _ h2 h3 h4 h5 w⟩
          have hcS : ∀ i, i < M → w9.cell? ⟨gs, i * 3, none⟩ = some (.float .f64 (R i)) ∧ w9.cell? ⟨gs, i * 3 + 1, none⟩ = some (.float .f64 dec) ∧ w9.cell? ⟨gs, i * 3 + 2, none⟩ = some (.float .f64 (Hr i)) ∧ w9.cell? ⟨gi, i, none⟩ = some (.int .i64 ((N1 + i : Nat) : Int)) := fun i hi => by
            obtain ⟨h1, h2, h3⟩ := cells3_at R Hr dec M i hi
            exact ⟨own_cell hownS h1, own_cell hownS h2, own_cell hownS h3, own_cell hI9 (cellsI_at N1 M i hi)⟩
          have hcC9 : ∀ m, m < n → w9.cell? ⟨g, m * 4, none⟩ = some (.float .f64 (T m)) ∧ w9.cell? ⟨g, m * 4 + 1, none⟩ = some (.float .f64 dec) ∧ w9.cell? ⟨g, m * 4 + 2, none⟩ = some (.float .f64 (Hh m)) ∧ w9.cell? ⟨g, m * 4 + 3, none⟩ = some (.bool (decide ((k + m) % 2 = 0))) := fun m hm => by
            obtain ⟨h1, h2, h3, h4⟩ := cells4_at T Hh dec k n m hm
            exact ⟨own_cell hC9 h1, own_cell hC9 h2, own_cell hC9 h3, own_cell hC9 h4⟩
          have hbd : Below w.heap.size w w9 := by
            have h1 := hb08.trans (hbA.mono hb08.size)
            exact h1.trans (hb9.mono h1.size)
          have hdd := ord_eq H.dec H.dec rfl
          clear hcC hI9 hC9 hownS hownC hownC' hownI hturn hallC hbk hneg hpos hl1 hg1' hEq hE1 hE2 hb08 hb9 hbA hg8 hgA x0 x1 x2 x3 x4 y5 y6 y5' y6' z0 z1 z2 z3 z4 hC hS hM
          go_wp2_with fail
          go_loopw [22, 23, 24, 25, 26, 99] (fun _ _ _ _ _ vi wr => ∃ i : Nat, i ≤ M ∧ vi = .int .i64 i ∧ Below w9.heap.size w9 wr) (fun _ _ _ _ _ i _ => 8 - (intOf i).toNat)
          case atStart => exact ⟨0, by omega, rfl, Below.refl _ _⟩
          case round =>
            rename World => wB
            obtain ⟨i, hiM, rfl, hbB⟩ := hrel
            have i0 : (0 : Int) ≤ (i : Int) := by omega
            by_cases hil : i < M
            · have i1 : (i : Int) < (M : Int) := by omega
              obtain ⟨⟨d, x, s1, s2, s3⟩, ctz⟩ := hfit i hil
              obtain ⟨h1, h2, h3, h4⟩ := hcS i hil
              obtain ⟨h5, h6, h7, h8⟩ := hcC9 (N1 + i) (by omega)
              have hJn : N1 + i < n := by omega
              obtain ⟨J, hJ⟩ : ∃ J, Hid (N1 + i = J) := ⟨_, rfl⟩
              rw [hJ.out] at s1 ctz h4 h5 h6 h7 h8 hJn
              have j0 : (0 : Int) ≤ (J : Int) := by omega
              have j1 : (J : Int) < (n : Int) := by omega
              obtain ⟨ub, hub⟩ : ∃ ub, Hid (decide ((k + (J : Int)) % 2 = 0) = ub) := ⟨_, rfl⟩
              rw [hub.out] at h8
              have f1 := runSub s1
              have cab25 := absf_le d 4502148214488346440 _ _ s2 fv_e7 s3
              have a1 := cell_in hbB h1
              have a2 := cell_in hbB h2
              have a3 := cell_in hbB h3
              have a4 := cell_in hbB h4
              have a5 := cell_in hbB h5
              have a6 := cell_in hbB h6
              have a7 := cell_in hbB h7
              have a8 := cell_in hbB h8
              have held : ∀ W, Wld wB.heap.size wB W → W.cell? ⟨gs, i * 3, none⟩ = some (.float .f64 (R i)) ∧ W.cell? ⟨gs, i * 3 + 1, none⟩ = some (.float .f64 dec) ∧ W.cell? ⟨gs, i * 3 + 2, none⟩ = some (.float .f64 (Hr i)) ∧ W.cell? ⟨g, J * 4, none⟩ = some (.float .f64 (T J)) ∧ W.cell? ⟨g, J * 4 + 1, none⟩ = some (.float .f64 dec) ∧ W.cell? ⟨g, J * 4 + 2, none⟩ = some (.float .f64 (Hh J)) ∧ W.cell? ⟨g, J * 4 + 3, none⟩ = some (.bool ub) ∧ Wld wB.heap.size wB W := fun W hW => ⟨hW.cell (lt_of_cell a1) a1, hW.cell (lt_of_cell a2) a2, hW.cell (lt_of_cell a3) a3, hW.cell (lt_of_cell a5) a5, hW.cell (lt_of_cell a6) a6, hW.cell (lt_of_cell a7) a7, hW.cell (lt_of_cell a8) a8, hW⟩
              have hst := Wld.start wB
              go_upto_region 25 with fail
              go_cut [117] from 104 to 117 (fun v wd => v = .bool false ∧ Wld wB.heap.size wB wd)
              case first =>
                go_region_held3 (fun W => W.cell? ⟨gs, i * 3, none⟩ = some (.float .f64 (R i)) ∧ W.cell? ⟨gs, i * 3 + 1, none⟩ = some (.float .f64 dec) ∧ W.cell? ⟨gs, i * 3 + 2, none⟩ = some (.float .f64 (Hr i)) ∧ W.cell? ⟨g, J * 4, none⟩ = some (.float .f64 (T J)) ∧ W.cell? ⟨g, J * 4 + 1, none⟩ = some (.float .f64 dec) ∧ W.cell? ⟨g, J * 4 + 2, none⟩ = some (.float .f64 (Hh J)) ∧ W.cell? ⟨g, J * 4 + 3, none⟩ = some (.bool ub) ∧ Wld wB.heap.size wB W)
                  (first
                    | (refine held _ ?_; go_split_ands; (repeat (first | with_reducible assumption | with_reducible exact hst | with_reducible refine Wld.drew ?_)) <;> fail))
                  (first
                    | (go_at_call 11; go_split_ands; refine (sampT_any (R i) dec (Hr i) _).mono ?_; rintro e w' ⟨rfl, hbW⟩; have hWw := Wld.call ‹Wld wB.heap.size _ _› hbW)
                    | (go_at_call 14; go_split_ands; refine (culmT_any (T J) dec (Hh J) ub _).mono ?_; rintro e w' ⟨rfl, hbW⟩; have hWw := Wld.call ‹Wld wB.heap.size _ _› hbW)
                    | (go_at_call 10; refine (cab25 _).mono ?_; rintro e w'' ⟨⟨rr, rfl, hrr⟩, hw⟩; rw [hw]; clear hw))
                all_goals (go_wp2_with fail; go_meet; case rel => (go_split_ands; exact ⟨rfl, by with_reducible assumption⟩))
              case rest =>
                obtain ⟨rfl, hwC⟩ := hcut
                rename World => wC
                obtain ⟨k1, k2, k3, k4, k5, k6, k7, _⟩ := held wC hwC
                by_cases hpar : (k + (J : Int)) % 2 = 0
                · skip
                  obtain rfl : ub = true := by rw [← hub.out]; simp [hpar]
                  by_cases hi0 : i = 0
                  · have n1 : ¬ (0 : Int) < (i : Int) := by omega
                    have n2 : ¬ 0 < i := by omega
                    clear hi0
                    go_wp2_with (first
                      | (go_at_call 12; refine (sampD_any (R i) dec (Hr i) _).mono ?_; rintro e wD ⟨rfl, hbD⟩; have t3 := cell_in hbD k3; have t1 := cell_in hbD k1; have t2 := cell_in hbD k2; have t4 := cell_in hbD k4; have t5 := cell_in hbD k5; have t6 := cell_in hbD k6; have t7 := cell_in hbD k7; have hwD := hwC.call hbD)
                      | (go_at_call 13; refine (sampH_any (R i) dec (Hr i) _).mono ?_; rintro e wE ⟨rfl, hbE⟩; have u4 := cell_in hbE t4; have u5 := cell_in hbE t5; have u6 := cell_in hbE t6; have u7 := cell_in hbE t7; have hwE := hwD.call hbE)
                      | (go_at_call 15; refine (ctz _).mono ?_; rintro e wX ⟨⟨rr, rfl, hf⟩, hw⟩; rw [hw]; clear hw; have cab := hf.even hpar)
                      | (go_at_call 16; refine (culmU_any (T J) dec (Hh J) true _).mono ?_; rintro e wF ⟨rfl, hbF⟩; have hwF := hwE.call hbF)
                      | (go_at_call 10; refine (cab _).mono ?_; rintro e wX ⟨⟨ss, rfl, hss⟩, hw⟩; rw [hw]; clear hw))
                    go_roundw
                    case rel => exact ⟨i + 1, by omega, by go_num, hbB.trans (hwF.below.mono hbB.size)⟩
                    case measure => simp [intOf]; omega
                  · have n1 : (0 : Int) < (i : Int) := by omega
                    have n2 : 0 < i := by omega
                    obtain ⟨p, hp⟩ : ∃ p, Hid (i = p + 1) := ⟨i - 1, by show i = i - 1 + 1; omega⟩
                    have hs0 : (i : Int) - 1 = (p : Int) := by have := hp.out; omega
                    have p0 : (0 : Int) ≤ (p : Int) := by omega
                    have p1 : (p : Int) < (M : Int) := by omega
                    have pM : p < M := by have := hp.out; omega
                    obtain ⟨_, _, _, l4⟩ := hcS p pM
                    obtain ⟨l5, l6, l7, l8⟩ := hcC9 (N1 + p) (by omega)
                    obtain ⟨I, hI⟩ : ∃ I, Hid (N1 + p = I) := ⟨_, rfl⟩
                    rw [hI.out] at l4 l5 l6 l7 l8
                    have q0 : (0 : Int) ≤ (I : Int) := by omega
                    have q1 : (I : Int) < (n : Int) := by have := hI.out; omega
                    rw [show decide ((k + (I : Int)) % 2 = 0) = false by (have e1 := hI.out; have e2 := hJ.out; have e3 := hp.out; simp; omega)] at l8
                    have r4 := cell_in hbB l4
                    have r5 := cell_in hbB l5
                    have r6 := cell_in hbB l6
                    have r7 := cell_in hbB l7
                    have r8 := cell_in hbB l8
                    clear hi0 l4 l5 l6 l7 l8 pM
                    go_wp2_with (first
                      | (go_at_call 12; refine (sampD_any (R i) dec (Hr i) _).mono ?_; rintro e wD ⟨rfl, hbD⟩; have t3 := cell_in hbD k3; have t1 := cell_in hbD k1; have t2 := cell_in hbD k2; have t4 := cell_in hbD k4; have t5 := cell_in hbD k5; have t6 := cell_in hbD k6; have t7 := cell_in hbD k7; have hwD := hwC.call hbD)
                      | (go_at_call 13; refine (sampH_any (R i) dec (Hr i) _).mono ?_; rintro e wE ⟨rfl, hbE⟩; have u4 := cell_in hbE t4; have u5 := cell_in hbE t5; have u6 := cell_in hbE t6; have u7 := cell_in hbE t7; have hwE := hwD.call hbE)
                      | (go_at_call 15; refine (ctz _).mono ?_; rintro e wX ⟨⟨rr, rfl, hf⟩, hw⟩; rw [hw]; clear hw; have cab := hf.even hpar)
                      | (go_at_call 16; refine (culmU_any (T J) dec (Hh J) true _).mono ?_; rintro e wF ⟨rfl, hbF⟩; have hwF := hwE.call hbF; have v4 := hwF.cell (lt_of_cell r4) r4; have v5 := hwF.cell (lt_of_cell r5) r5; have v6 := hwF.cell (lt_of_cell r6) r6; have v7 := hwF.cell (lt_of_cell r7) r7; have v8 := hwF.cell (lt_of_cell r8) r8)
                      | (go_at_call 16; refine (culmU_any (T I) dec (Hh I) false _).mono ?_; rintro e wG ⟨rfl, hbG⟩; have hwG := hwF.call hbG)
                      | (go_at_call 10; refine (cab _).mono ?_; rintro e wX ⟨⟨ss, rfl, hss⟩, hw⟩; rw [hw]; clear hw))
                    go_roundw
                    case rel => exact ⟨i + 1, by omega, by go_num, hbB.trans (hwG.below.mono hbB.size)⟩
                    case measure => simp [intOf]; omega
                · skip
                  obtain rfl : ub = false := by rw [← hub.out]; simp [hpar]
                  by_cases hi0 : i = 0
                  · have n1 : ¬ (0 : Int) < (i : Int) := by omega
                    have n2 : ¬ 0 < i := by omega
                    clear hi0
                    go_wp2_with (first
                      | (go_at_call 12; refine (sampD_any (R i) dec (Hr i) _).mono ?_; rintro e wD ⟨rfl, hbD⟩; have t3 := cell_in hbD k3; have t1 := cell_in hbD k1; have t2 := cell_in hbD k2; have t4 := cell_in hbD k4; have t5 := cell_in hbD k5; have t6 := cell_in hbD k6; have t7 := cell_in hbD k7; have hwD := hwC.call hbD)
                      | (go_at_call 13; refine (sampH_any (R i) dec (Hr i) _).mono ?_; rintro e wE ⟨rfl, hbE⟩; have u4 := cell_in hbE t4; have u5 := cell_in hbE t5; have u6 := cell_in hbE t6; have u7 := cell_in hbE t7; have hwE := hwD.call hbE)
                      | (go_at_call 15; refine (ctz _).mono ?_; rintro e wX ⟨⟨rr, rfl, hf⟩, hw⟩; rw [hw]; clear hw; have cab := hf.odd hpar)
                      | (go_at_call 16; refine (culmU_any (T J) dec (Hh J) false _).mono ?_; rintro e wF ⟨rfl, hbF⟩; have hwF := hwE.call hbF)
                      | (go_at_call 10; refine (cab _).mono ?_; rintro e wX ⟨⟨ss, rfl, hss⟩, hw⟩; rw [hw]; clear hw))
                    go_roundw
                    case rel => exact ⟨i + 1, by omega, by go_num, hbB.trans (hwF.below.mono hbB.size)⟩
                    case measure => simp [intOf]; omega
                  · have n1 : (0 : Int) < (i : Int) := by omega
                    have n2 : 0 < i := by omega
                    obtain ⟨p, hp⟩ : ∃ p, Hid (i = p + 1) := ⟨i - 1, by show i = i - 1 + 1; omega⟩
                    have hs0 : (i : Int) - 1 = (p : Int) := by have := hp.out; omega
                    have p0 : (0 : Int) ≤ (p : Int) := by omega
                    have p1 : (p : Int) < (M : Int) := by omega
                    have pM : p < M := by have := hp.out; omega
                    obtain ⟨_, _, _, l4⟩ := hcS p pM
                    obtain ⟨l5, l6, l7, l8⟩ := hcC9 (N1 + p) (by omega)
                    obtain ⟨I, hI⟩ : ∃ I, Hid (N1 + p = I) := ⟨_, rfl⟩
                    rw [hI.out] at l4 l5 l6 l7 l8
                    have q0 : (0 : Int) ≤ (I : Int) := by omega
                    have q1 : (I : Int) < (n : Int) := by have := hI.out; omega
                    rw [show decide ((k + (I : Int)) % 2 = 0) = true by (have e1 := hI.out; have e2 := hJ.out; have e3 := hp.out; simp; omega)] at l8
                    have r4 := cell_in hbB l4
                    have r5 := cell_in hbB l5
                    have r6 := cell_in hbB l6
                    have r7 := cell_in hbB l7
                    have r8 := cell_in hbB l8
                    clear hi0 l4 l5 l6 l7 l8 pM
                    go_wp2_with (first
                      | (go_at_call 12; refine (sampD_any (R i) dec (Hr i) _).mono ?_; rintro e wD ⟨rfl, hbD⟩; have t3 := cell_in hbD k3; have t1 := cell_in hbD k1; have t2 := cell_in hbD k2; have t4 := cell_in hbD k4; have t5 := cell_in hbD k5; have t6 := cell_in hbD k6; have t7 := cell_in hbD k7; have hwD := hwC.call hbD)
                      | (go_at_call 13; refine (sampH_any (R i) dec (Hr i) _).mono ?_; rintro e wE ⟨rfl, hbE⟩; have u4 := cell_in hbE t4; have u5 := cell_in hbE t5; have u6 := cell_in hbE t6; have u7 := cell_in hbE t7; have hwE := hwD.call hbE)
                      | (go_at_call 15; refine (ctz _).mono ?_; rintro e wX ⟨⟨rr, rfl, hf⟩, hw⟩; rw [hw]; clear hw; have cab := hf.odd hpar)
                      | (go_at_call 16; refine (culmU_any (T J) dec (Hh J) false _).mono ?_; rintro e wF ⟨rfl, hbF⟩; have hwF := hwE.call hbF; have v4 := hwF.cell (lt_of_cell r4) r4; have v5 := hwF.cell (lt_of_cell r5) r5; have v6 := hwF.cell (lt_of_cell r6) r6; have v7 := hwF.cell (lt_of_cell r7) r7; have v8 := hwF.cell (lt_of_cell r8) r8)
                      | (go_at_call 16; refine (culmU_any (T I) dec (Hh I) true _).mono ?_; rintro e wG ⟨rfl, hbG⟩; have hwG := hwF.call hbG)
                      | (go_at_call 10; refine (cab _).mono ?_; rintro e wX ⟨⟨ss, rfl, hss⟩, hw⟩; rw [hw]; clear hw))
                    go_roundw
                    case rel => exact ⟨i + 1, by omega, by go_num, hbB.trans (hwG.below.mono hbB.size)⟩
                    case measure => simp [intOf]; omega
            · have hiN : ¬ (i : Int) < (M : Int) := by omega
              have hbz : Hid (Below w.heap.size w wB) := hbd.trans (hbB.mono hbd.size)
              go_wp2_with fail
              go_ret
              exact ⟨rfl, hbz.out⟩
end Go.Proofs.Qxb6609382aFmt.W
