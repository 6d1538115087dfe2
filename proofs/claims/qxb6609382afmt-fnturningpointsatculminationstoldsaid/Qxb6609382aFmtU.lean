import Derived.Test.Qxb6609382aFmtTa
namespace Go.Proofs.Qxb6609382aFmt.W
open Go.RowKit Go.Proofs.Qxb6609382aFmt.Fl
attribute [local go_sem] run_store_float run_store_nilF run_store_fn

theorem fv_e7 : fv 4502148214488346440 = some (wv 4502148214488346440) := by decide +kernel
theorem e7_lo : 9 / 100000000 ≤ wv 4502148214488346440 := by decide +kernel
theorem fv_e6 : fv 4517329193108106637 = some (wv 4517329193108106637) := by decide +kernel
theorem e6_lo : 9 / 10000000 ≤ wv 4517329193108106637 := by decide +kernel

theorem absf_le (x c : Nat) (q b : Rat) (hx : fv x = some q) (hc : fv c = some b) (h : Bd q b) : ∀ w, Calls Tryf.prog 10 #[.float .f64 x] w fun e w' => (∃ r, e = .returned (.float .f64 r) ∧ (FloatKind.f64.format.order r c == some .lt || FloatKind.f64.format.order r c == some .eq) = true) ∧ w' = w := fun w => (absf_any x q hx w).mono (by
  rintro e w' ⟨⟨r, a, rfl, hr, ha⟩, rfl⟩
  refine ⟨⟨r, rfl, ?_⟩, rfl⟩
  have h1 := h.1; have h2 := h.2
  have hab : a ≤ b := by rcases ha with ⟨_, rfl⟩ | ⟨_, rfl⟩ <;> grind
  rcases order_val hr hc with ⟨_, h3⟩ | ⟨_, h3⟩ | ⟨h3, _⟩
  · have : FloatKind.f64.format.order r c = some .lt := h3
    rw [this]; rfl
  · have : FloatKind.f64.format.order r c = some .eq := h3
    rw [this]; rfl
  · exfalso; grind)

theorem cells3_at (R Hr : Nat → Nat) (dec : Nat) : ∀ n m, m < n → (cells3 R Hr dec n)[m * 3]? = some (.float .f64 (R m)) ∧ (cells3 R Hr dec n)[m * 3 + 1]? = some (.float .f64 dec) ∧ (cells3 R Hr dec n)[m * 3 + 2]? = some (.float .f64 (Hr m))
  | 0, m, h => absurd h (by omega)
  | n + 1, m, h => by
    have hl : ∀ n, (cells3 R Hr dec n).length = n * 3 := fun n => by
      induction n with
      | zero => rfl
      | succ n ih => rw [cells3, List.length_append, ih]; simp; omega
    rw [cells3]
    by_cases hm : m = n
    · subst hm
      refine ⟨?_, ?_, ?_⟩ <;> rw [List.getElem?_append_right (by rw [hl]; omega), hl] <;> simp
    · obtain ⟨h1, h2, h3⟩ := cells3_at R Hr dec n m (by omega)
      refine ⟨?_, ?_, ?_⟩ <;> rw [List.getElem?_append_left (by rw [hl]; omega)] <;> assumption

/-- A turning point beside the model's. -/
theorem turn_near {h0 : Nat} {η : Rat} {k : Int} {m j t r h hh' : Nat} (hh : fv h0 = some η) (bh : Bd η 64) (hj : j ≤ 48) (hjk : (j : Int) = k + m + 24) (hc : CulmOK η (k + m) t hh') (ht : TurnOK η t r h) :
    (∃ d x, Ieee.double.sub r (tW h0 j) = some d ∧ fv d = some x ∧ Bd x (wv 4502148214488346440)) ∧ (∃ d x, Ieee.double.sub h (hW j) = some d ∧ fv d = some x ∧ Bd x (wv 4517329193108106637)) := by
  obtain ⟨_, _, _, v1, v2, a, b, c⟩ := model_near hh bh j hj
  obtain ⟨τ, q, u1, u2, u3, u4, u5⟩ := hc
  obtain ⟨ρ, qh, s1, s2, s3, s4⟩ := ht
  rw [(fv_wv u1).2] at s3
  have ek : kOf j = k + m := by unfold kOf; omega
  rw [ek] at a b
  have e7 := e7_lo; have e6 := e6_lo
  have a1 := a.1; have a2 := a.2; have b1 := b.1; have b2 := b.2; have x1 := u4.1; have x2 := u4.2; have y1 := s3.1; have y2 := s3.2; have z1 := s4.1; have z2 := s4.2; have p1 := u5.1; have p2 := u5.2
  simp only [Wr] at b1 b2 x1 x2 z1 z2
  constructor
  · obtain ⟨d, e1, f1⟩ := Fx.sub' 0 (8 / 100000000) (1 / 100000000000000) (Fx.lit s1 (A := 2) ⟨by grind, by grind⟩) (Fx.lit v2 c) ⟨by grind, by grind⟩ (by decide +kernel)
    obtain ⟨x, v, e, _⟩ := f1
    have e3 := e.1; have e4 := e.2
    exact ⟨d, x, e1, v, ⟨by grind, by grind⟩⟩
  · have bq : Bd qh 100 := by
      have h1 := bh.1; have h2 := bh.2
      exact ⟨by grind, by grind⟩
    have bw : Bd (wv (hW j)) 100 := by
      have h1 := bh.1; have h2 := bh.2
      exact ⟨by grind, by grind⟩
    obtain ⟨d, e1, f1⟩ := Fx.sub' 0 (8 / 10000000) (1 / 100000000000000) (Fx.lit s2 bq) (Fx.lit v1 bw) ⟨by grind, by grind⟩ (by decide +kernel)
    obtain ⟨x, v, e, _⟩ := f1
    have e3 := e.1; have e4 := e.2
    exact ⟨d, x, e1, v, ⟨by grind, by grind⟩⟩

set_option maxHeartbeats 4000000 in
set_option maxRecDepth 100000 in
theorem law3_walk (dec h0 sa sl cl : Nat) (b1 : dec < 18446744073709551616) (b2 : h0 < 18446744073709551616) (b3 : sa < 18446744073709551616) (b4 : sl < 18446744073709551616) (b5' : cl < 18446744073709551616)
    (w : World) (hg : Glob w) (g0 : w.cell? ⟨0, 0, none⟩ = some (.float .f64 4607157826112761935)) (g1 : w.cell? ⟨1, 0, none⟩ = some (.float .f64 4618779624111797601)) :
    Calls Tryf.prog 3 #[.float .f64 dec, .float .f64 h0, .float .f64 sa, .float .f64 sl, .float .f64 cl] w fun e w' => e = .returned (.bool true) ∧ Below w.heap.size w w' := by
  have cdom := domain_any dec h0 sa sl cl w
  go_enter Tryf.func3, Tryf.ntmps3
  go_wp2_with (go_at_call 5; refine cdom.mono ?_; rintro e w' ⟨hd, hw⟩; rw [hw]; clear hw; rcases hd with rfl | ⟨rfl, hin⟩)
  · go_ret
    exact ⟨rfl, Below.refl _ _⟩
  · obtain ⟨δ, η, α, σ, κ, H⟩ := dayOK_of hin b1 b2 b3 b4 b5'
    obtain ⟨lo, hi, hlh, hhi, hlo, hhi'⟩ := lohi H.h0 H.bh0
    refine (model_walk H.h0 H.bh0 lo hi hlh hhi hlo hhi' w).mono ?_
    rintro e w6 ⟨hm, hb6⟩
    rcases hm with rfl | ⟨vt, vh, rfl, hownT, hownH, hfar⟩
    · go_wp2_with fail
      go_ret
      exact ⟨rfl, hb6⟩
    · have hS := sep_of H.h0 H.bh0 hfar
      have G0 := cell_in hb6 g0
      have G1 := cell_in hb6 g1
      have hg6 := hg.below hb6
      go_upto_region 11 with (first
        | (go_at_call 7; refine (star_any dec h0 sa sl cl w6).mono ?_; rintro e w7 ⟨rfl, c5, c6, hb7⟩)
        | (go_at_call 8; refine (zculms_any H w6.heap.size (w6.heap.size + 1) _ (cell_al (cell_in hb7 G0) _) (cell_al (cell_in hb7 G1) _) (cell_al c5 _) (cell_al c6 _)).mono ?_; rintro e w8 ⟨⟨g, c, n, k, T, Hh, rfl, hownC, hC⟩, hb8⟩; have x0 := cell_in hb8 (b := w7.heap.size) (o := 0) (v := .nilFunc) (by simp); have x1 := cell_in hb8 (b := w7.heap.size) (o := 1) (v := .func (.func 17) #[] #[.pointer (some ⟨w6.heap.size, 0, none⟩), .pointer (some ⟨w6.heap.size + 1, 0, none⟩)]) (by simp); have x2 := cell_in hb8 (b := w7.heap.size) (o := 2) (v := .float .f64 sa) (by simp); have x3 := cell_in hb8 (b := w7.heap.size) (o := 3) (v := .float .f64 sl) (by simp); have x4 := cell_in hb8 (b := w7.heap.size) (o := 4) (v := .float .f64 cl) (by simp))
        | (go_at_call 9; refine (zturns_any H w6.heap.size (w6.heap.size + 1) g c n k T Hh _ hC hS w8 (((hg6.below hb7).al _).below hb8) (cell_in hb8 (cell_al c5 _)) (cell_in hb8 (cell_al c6 _)) hownC).mono ?_; rintro e w9 ⟨⟨vs, N0, R, Hr, rfl, hownS, hturn, hN1, hN2, hE1, hE2⟩, hb9⟩))
      obtain ⟨eLo, eHi⟩ := lohi_at H.h0 H.bh0 hlo hhi' hE1 hE2
      obtain ⟨hallC, hltC, hgeC, n1, n4, hbk⟩ := hC
      have n34' := n34 (T := T) (fun m hm => At_of (hallC m hm)) (by obtain ⟨τ, v1, v2⟩ := hgeC; rw [(fv_wv v1).2]; exact v2) n1 n4 hbk
      have hML : hi - lo = n - 1 - N0 := by omega
      rw [hML] at hownT hownH
      have hnear : ∀ i, i < n - 1 - N0 → (∃ d x, Ieee.double.sub (R i) (tW h0 (lo + i)) = some d ∧ fv d = some x ∧ Bd x (wv 4502148214488346440)) ∧ (∃ d x, Ieee.double.sub (Hr i) (hW (lo + i)) = some d ∧ fv d = some x ∧ Bd x (wv 4517329193108106637)) := fun i hi => turn_near H.h0 H.bh0 (by omega) (by omega) (hallC (N0 + i) (by omega)) (hturn i hi)
      have hM0 : 0 < n - 1 - N0 := by omega
      have hM4 : n - 1 - N0 ≤ 4 := by omega
      have hbd : Below w.heap.size w w9 := by
        have h1 := hb6.trans (hb7.mono hb6.size)
        have h2 := h1.alloc h1.size (.cells #[.nilFunc, .func (.func 17) #[] #[.pointer (some ⟨w6.heap.size, 0, none⟩), .pointer (some ⟨w6.heap.size + 1, 0, none⟩)], .float .f64 sa, .float .f64 sl, .float .f64 cl] 31)
        have h3 := h2.trans (hb8.mono h2.size)
        exact h3.trans (hb9.mono h3.size)
      have h69 : Below w6.heap.size w6 w9 := by
        have h2 := hb7.alloc hb7.size (.cells #[.nilFunc, .func (.func 17) #[] #[.pointer (some ⟨w6.heap.size, 0, none⟩), .pointer (some ⟨w6.heap.size + 1, 0, none⟩)], .float .f64 sa, .float .f64 sl, .float .f64 cl] 31)
        have h3 := h2.trans (hb8.mono h2.size)
        exact h3.trans (hb9.mono h3.size)
      have hT9 := own_keep hownT h69
      have hH9 := own_keep hownH h69
      have hdd := ord_eq H.dec H.dec rfl
      clear hownT hownH eLo eHi hML hturn hallC hltC hgeC hlo hhi' hb6 hb7 hb8 hb9 h69 hfar hS n34' hE1 hE2 hownC G0 G1 hg6 x0 x1 x2 x3 x4 c5 c6
      generalize n - 1 - N0 = M at *
      obtain ⟨gt, ct, rfl, _, _⟩ := hT9.form hM0
      obtain ⟨gh, ch, rfl, _, _⟩ := hH9.form hM0
      obtain ⟨gs, cs, rfl, _, _⟩ := hownS.form hM0
      have hcell : ∀ i, i < M → w9.cell? ⟨gs, i * 3, none⟩ = some (.float .f64 (R i)) ∧ w9.cell? ⟨gs, i * 3 + 1, none⟩ = some (.float .f64 dec) ∧ w9.cell? ⟨gs, i * 3 + 2, none⟩ = some (.float .f64 (Hr i)) ∧ w9.cell? ⟨gt, i, none⟩ = some (.float .f64 (tW h0 (lo + i))) ∧ w9.cell? ⟨gh, i, none⟩ = some (.float .f64 (hW (lo + i))) := fun i hi => by
        obtain ⟨h1, h2, h3⟩ := cells3_at R Hr dec M i hi
        exact ⟨own_cell hownS h1, own_cell hownS h2, own_cell hownS h3, own_cell hT9 (cells1_at (fun m => tW h0 (lo + m)) M i hi), own_cell hH9 (cells1_at (fun m => hW (lo + m)) M i hi)⟩
      clear hT9 hH9 hownS
      go_wp2_with fail
      go_loopw [19] (fun vi wr => ∃ i : Nat, i ≤ M ∧ vi = .int .i64 i ∧ Below w9.heap.size w9 wr) (fun i _ => 8 - (intOf i).toNat)
      case atStart => exact ⟨0, by omega, rfl, Below.refl _ _⟩
      case round =>
        rename World => wA
        obtain ⟨i, hiM, rfl, hbA⟩ := hrel
        have i0 : (0 : Int) ≤ (i : Int) := by omega
        by_cases hil : i < M
        · have i1 : (i : Int) < (M : Int) := by omega
          obtain ⟨⟨d, x, s1, s2, s3⟩, ⟨d', x', s4, s5, s6⟩⟩ := hnear i hil
          have f1 := runSub s1
          have f2 := runSub s4
          have cab16 := absf_le d 4502148214488346440 _ _ s2 fv_e7 s3
          have cab20 := absf_le d' 4517329193108106637 _ _ s5 fv_e6 s6
          obtain ⟨h1, h2, h3, h4, h5⟩ := hcell i hil
          have a1 := cell_in hbA h1
          have a2 := cell_in hbA h2
          have a3 := cell_in hbA h3
          have a4 := cell_in hbA h4
          have a5 := cell_in hbA h5
          have held : ∀ W, Wld wA.heap.size wA W → W.cell? ⟨gs, i * 3, none⟩ = some (.float .f64 (R i)) ∧ W.cell? ⟨gs, i * 3 + 1, none⟩ = some (.float .f64 dec) ∧ W.cell? ⟨gs, i * 3 + 2, none⟩ = some (.float .f64 (Hr i)) ∧ W.cell? ⟨gt, i, none⟩ = some (.float .f64 (tW h0 (lo + i))) ∧ W.cell? ⟨gh, i, none⟩ = some (.float .f64 (hW (lo + i))) ∧ Wld wA.heap.size wA W := fun W hW => ⟨hW.cell (lt_of_cell a1) a1, hW.cell (lt_of_cell a2) a2, hW.cell (lt_of_cell a3) a3, hW.cell (lt_of_cell a4) a4, hW.cell (lt_of_cell a5) a5, hW⟩
          have hst := Wld.start wA
          go_upto_region 16 with fail
          go_cut [79] from 67 to 79 (fun v wd => v = .bool false ∧ Wld wA.heap.size wA wd)
          case first =>
            go_region_held3 (fun W => W.cell? ⟨gs, i * 3, none⟩ = some (.float .f64 (R i)) ∧ W.cell? ⟨gs, i * 3 + 1, none⟩ = some (.float .f64 dec) ∧ W.cell? ⟨gs, i * 3 + 2, none⟩ = some (.float .f64 (Hr i)) ∧ W.cell? ⟨gt, i, none⟩ = some (.float .f64 (tW h0 (lo + i))) ∧ W.cell? ⟨gh, i, none⟩ = some (.float .f64 (hW (lo + i))) ∧ Wld wA.heap.size wA W)
              (first
                | (refine held _ ?_; go_split_ands; (repeat (first | with_reducible assumption | with_reducible exact hst | with_reducible refine Wld.drew ?_)) <;> fail))
              (first
                | (go_at_call 11; go_split_ands; refine (sampT_any (R i) dec (Hr i) _).mono ?_; rintro e w' ⟨rfl, hbW⟩; have hWw := Wld.call ‹Wld wA.heap.size _ _› hbW)
                | (go_at_call 10; refine (cab16 _).mono ?_; rintro e w'' ⟨⟨rr, rfl, hrr⟩, hw⟩; rw [hw]; clear hw))
            all_goals (go_wp2_with fail; go_meet; case rel => (go_split_ands; exact ⟨rfl, by with_reducible assumption⟩))
          case rest =>
            obtain ⟨rfl, hwB⟩ := hcut
            rename World => wB
            obtain ⟨y1, y2, y3, y4, y5, _⟩ := held wB hwB
            go_upto_region 20 with (go_at_call 12; refine (sampD_any (R i) dec (Hr i) _).mono ?_; rintro e w' ⟨rfl, hbW⟩; have hwC := hwB.call hbW)
            go_cut [99] from 87 to 99 (fun v wd => v = .bool false ∧ Wld wA.heap.size wA wd)
            case first =>
              go_region_held3 (fun W => W.cell? ⟨gs, i * 3, none⟩ = some (.float .f64 (R i)) ∧ W.cell? ⟨gs, i * 3 + 1, none⟩ = some (.float .f64 dec) ∧ W.cell? ⟨gs, i * 3 + 2, none⟩ = some (.float .f64 (Hr i)) ∧ W.cell? ⟨gt, i, none⟩ = some (.float .f64 (tW h0 (lo + i))) ∧ W.cell? ⟨gh, i, none⟩ = some (.float .f64 (hW (lo + i))) ∧ Wld wA.heap.size wA W)
                (first
                  | (refine held _ ?_; go_split_ands; (repeat (first | with_reducible assumption | with_reducible exact hwC | with_reducible refine Wld.drew ?_)) <;> fail))
                (first
                  | (go_at_call 13; go_split_ands; refine (sampH_any (R i) dec (Hr i) _).mono ?_; rintro e w' ⟨rfl, hbW⟩; have hWw := Wld.call ‹Wld wA.heap.size _ _› hbW)
                  | (go_at_call 10; refine (cab20 _).mono ?_; rintro e w'' ⟨⟨rr, rfl, hrr⟩, hw⟩; rw [hw]; clear hw))
              all_goals (go_wp2_with fail; go_meet; case rel => (go_split_ands; exact ⟨rfl, by with_reducible assumption⟩))
            case rest =>
              obtain ⟨rfl, hwD⟩ := hcut
              go_wp2_with fail
              go_roundw
              case rel => exact ⟨i + 1, by omega, by go_num, hbA.trans (hwD.below.mono hbA.size)⟩
              case measure => simp [intOf]; omega
        · have hiN : ¬ (i : Int) < (M : Int) := by omega
          have hbz : Hid (Below w.heap.size w wA) := hbd.trans (hbA.mono hbd.size)
          go_wp2_with fail
          go_ret
          exact ⟨rfl, hbz.out⟩
end Go.Proofs.Qxb6609382aFmt.W
