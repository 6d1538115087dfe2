import Derived.Test.Qxb6609382aFmtR
import Derived.Test.Qxb6609382aFmtFw
namespace Go.Proofs.Qxb6609382aFmt.W
open Go.RowKit Go.Proofs.Qxb6609382aFmt.Fl

def e3 : Rat := 1152921504606847 / 1152921504606846976
theorem fv_e3 : fv 4562254508917369340 = some e3 := by decide +kernel
theorem e3_lo : 999999 / 1000000000 ≤ e3 := by decide +kernel
theorem e3_hi : e3 ≤ 1000001 / 1000000000 := by decide +kernel
def Far (x : Rat) : Prop := (999 / 1000000 ≤ x ∨ 999 / 1000000 ≤ -x) ∧ (999 / 1000000 ≤ x - 1 ∨ 999 / 1000000 ≤ -(x - 1))

def cells1 (f : Nat → Nat) : Nat → List Value
  | 0 => []
  | n + 1 => cells1 f n ++ [.float .f64 (f n)]
theorem cells1_at (f : Nat → Nat) : ∀ n m, m < n → (cells1 f n)[m]? = some (.float .f64 (f m))
  | 0, m, h => absurd h (by omega)
  | n + 1, m, h => by
    have hl : ∀ n, (cells1 f n).length = n := fun n => by
      induction n with
      | zero => rfl
      | succ n ih => rw [cells1, List.length_append, ih]; rfl
    rw [cells1]
    by_cases hm : m = n
    · subst hm
      rw [List.getElem?_append_right (by rw [hl]; omega), hl]; simp
    · rw [List.getElem?_append_left (by rw [hl]; omega)]
      exact cells1_at f n m (by omega)

/-- The second distance. -/
theorem less_one {t : Nat} {τ : Rat} (ht : fv t = some τ) (bt : Bd τ 30) : ∃ d x, Ieee.double.sub t 4607182418800017408 = some d ∧ fv d = some x ∧ Bd (x - (τ - 1)) (1 / 100000000000000) := by
  obtain ⟨d, e1, f1⟩ := Fx.sub 5 31 (1 / 100000000000000) (Fx.lit ht bt) (Fx.lit fv_one (A := 1) (by constructor <;> decide +kernel)) (by decide +kernel)
  obtain ⟨x, v, e, _⟩ := f1
  exact ⟨d, x, e1, v, e⟩

/-- absf with its worth, and how it stands to a bound. -/
theorem absf_cmp (x c : Nat) (q b : Rat) (hx : fv x = some q) (hc : fv c = some b) :
    ∃ (B : Bool), (B = true → q < b ∧ -q < b) ∧ (B = false → b ≤ q ∨ b ≤ -q) ∧ ∀ w, Calls Tryf.prog 10 #[.float .f64 x] w fun e w' => (∃ r, e = .returned (.float .f64 r) ∧ (FloatKind.f64.format.order r c == some .lt) = B) ∧ w' = w := by
  by_cases h : q < b ∧ -q < b
  · refine ⟨true, fun _ => h, fun e => (by cases e), fun w => (absf_any x q hx w).mono ?_⟩
    rintro e w' ⟨⟨r, a, rfl, hr, ha⟩, rfl⟩
    refine ⟨⟨r, rfl, ?_⟩, rfl⟩
    rw [ord_lt hr hc (by rcases ha with ⟨_, rfl⟩ | ⟨_, rfl⟩ <;> grind)]; rfl
  · refine ⟨false, fun e => (by cases e), fun _ => by grind, fun w => (absf_any x q hx w).mono ?_⟩
    rintro e w' ⟨⟨r, a, rfl, hr, ha⟩, rfl⟩
    refine ⟨⟨r, rfl, ord_nltB hr hc (by rcases ha with ⟨_, rfl⟩ | ⟨_, rfl⟩ <;> grind)⟩, rfl⟩

theorem own_grown {w w' : World} {base : Nat} {e : TypeId} {size : Nat} {v : Value} {n : Nat} {xs : List Value} {row : Option Nat} (h : w.ownsRow base e size v n xs) (hg : w.grownBy w' row) (hne : ∀ g, v.ownBlock = some g → row ≠ some g) : w'.ownsRow base e size v n xs :=
  own_block h (fun g hg' => hg.block g (h.lt g hg').2 (fun e => hne g hg' e.symm))

/-- The model as the law gets it: refused, or the instants and hour angles of the multiples lo .. hi - 1. -/
def IsModel (h0 B lo hi : Nat) (e : Ending) (w' : World) : Prop := e = .returned (.tuple #[.slice none 0 0, .slice none 0 0, .bool false]) ∨
  ∃ vt vh, e = .returned (.tuple #[vt, vh, .bool true]) ∧ w'.ownsRow B 22 1 vt (hi - lo) (cells1 (fun m => tW h0 (lo + m)) (hi - lo)) ∧ w'.ownsRow B 22 1 vh (hi - lo) (cells1 (fun m => hW (lo + m)) (hi - lo)) ∧ ∀ j, j ≤ 48 → Far (wv (tW h0 j))

def MInv (h0 B lo hi : Nat) (j : Nat) (v5 v6 : Value) (wr : World) : Prop := wr.ownsRow B 22 1 v5 (min j hi - lo) (cells1 (fun m => tW h0 (lo + m)) (min j hi - lo)) ∧ wr.ownsRow B 22 1 v6 (min j hi - lo) (cells1 (fun m => hW (lo + m)) (min j hi - lo)) ∧ (∀ g, v5.ownBlock = some g → v6.ownBlock ≠ some g) ∧ (∀ m, m < j → Far (wv (tW h0 m))) ∧ B ≤ wr.heap.size

set_option maxHeartbeats 4000000 in
theorem model_walk {h0 : Nat} {η : Rat} (hh : fv h0 = some η) (bh : Bd η 64) (lo hi : Nat) (hlh : lo ≤ hi) (hhi : hi ≤ 49) (hlo : ∀ j, j < 49 → (wv (tW h0 j) ≤ 0 ↔ j < lo)) (hhi' : ∀ j, j < 49 → (wv (tW h0 j) < 1 ↔ j < hi)) (w : World) :
    Calls Tryf.prog 6 #[.float .f64 h0] w fun e w' => IsModel h0 w.heap.size lo hi e w' ∧ Below w.heap.size w w' := by
  obtain ⟨i22, hi22, hz22, hs22, hb22⟩ := info_parts i22
  have hM := fun j hj => model_near hh bh j hj
  have hinv0 : Hid (MInv h0 w.heap.size lo hi 0 (.slice none 0 0) (.slice none 0 0) w) := ⟨by rw [show min 0 hi - lo = 0 by omega]; exact World.ownsRow_nil _ _ _ _, by rw [show min 0 hi - lo = 0 by omega]; exact World.ownsRow_nil _ _ _ _, fun g hg => by simp [Value.ownBlock] at hg, fun m hm => absurd hm (by omega), Nat.le_refl _⟩
  go_enter Tryf.func6, Tryf.ntmps6
  go_wp2_with fail
  go_loopw [5, 6, 7, 8, 9] (fun v5 v6 v7 _ _ wr => ∃ j : Nat, j ≤ 49 ∧ v7 = .int .i64 ((j : Int) - 24) ∧ MInv h0 w.heap.size lo hi j v5 v6 wr ∧ Below w.heap.size w wr) (fun _ _ i _ _ _ => (100 - intOf i).toNat)
  case atStart => exact ⟨0, by omega, rfl, hinv0.out, Below.refl _ _⟩
  case round =>
    rename World => wA
    obtain ⟨j, hj, rfl, ⟨hownT, hownH, hdis, hfar, hszA⟩, hbA⟩ := hrel
    by_cases hjl : j ≤ 48
    · obtain ⟨m1, m2, m3, v1, v2, b1, b2, b3⟩ := hM j hjl
      obtain ⟨d, x, n1, n2, n3⟩ := less_one v2 b3
      obtain ⟨B1, t1, f1, cA⟩ := absf_cmp (tW h0 j) 4562254508917369340 _ _ v2 fv_e3
      obtain ⟨B2, t2, f2, cB⟩ := absf_cmp d 4562254508917369340 _ _ n2 fv_e3
      have r1 := runMul m1
      have r2 := runSub m2
      have r3 := runDiv m3
      have r4 := runSub n1
      have hkf : floatOfInt .f64 ((j : Int) - 24) = kfW j := rfl
      have hle : (j : Int) - 24 ≤ 24 := by omega
      have e3l := e3_lo
      have x1 := n3.1; have x2 := n3.2
      cases B1
      · cases B2
        · have hf : Far (wv (tW h0 j)) := by
            refine ⟨?_, ?_⟩
            · rcases f1 rfl with h | h
              · exact Or.inl (by grind)
              · exact Or.inr (by grind)
            · rcases f2 rfl with h | h
              · exact Or.inl (by grind)
              · exact Or.inr (by grind)
          have hfar' : ∀ m, m < j + 1 → Far (wv (tW h0 m)) := fun m hm => by
            by_cases he : m = j
            · subst he; exact hf
            · exact hfar m (by omega)
          clear hf hfar t1 t2 f1 f2 hM
          by_cases hL : j < lo
          · have o1 := ord_ngtB v2 fv_zero ((hlo j (by omega)).2 hL)
            have hnx : Hid (MInv h0 w.heap.size lo hi (j + 1) u5 u6 wA) := ⟨by rw [show min (j + 1) hi - lo = min j hi - lo by omega]; exact hownT, by rw [show min (j + 1) hi - lo = min j hi - lo by omega]; exact hownH, hdis, hfar', hszA⟩
            go_wp2_with (first | (go_at_call 10; refine (cA _).mono ?_; rintro e w' ⟨⟨r, rfl, hr⟩, hw⟩; rw [hw]; clear hw) | (go_at_call 10; refine (cB _).mono ?_; rintro e w' ⟨⟨r', rfl, hr'⟩, hw⟩; rw [hw]; clear hw))
            go_roundw
            case rel => exact ⟨j + 1, by omega, by go_num, hnx.out, hbA⟩
            case measure => simp [intOf]; omega
          · have o1 := ord_gt v2 fv_zero (by have := mt (hlo j (by omega)).1 hL; grind)
            by_cases hR : j < hi
            · have o2 := ord_lt v2 fv_one ((hhi' j (by omega)).2 hR)
              have ec : min j hi - lo = j - lo := by omega
              have ec' : min (j + 1) hi - lo = j - lo + 1 := by omega
              rw [ec] at hownT hownH
              have ej : lo + (j - lo) = j := by omega
              go_wp2_with (first | (go_at_call 10; refine (cA _).mono ?_; rintro e w' ⟨⟨r, rfl, hr⟩, hw⟩; rw [hw]; clear hw) | (go_at_call 10; refine (cB _).mono ?_; rintro e w' ⟨⟨r', rfl, hr'⟩, hw⟩; rw [hw]; clear hw) | (at_builtin; refine wpList_append_lies _ rfl (.tmp 36) (.tmp 38) 24 rfl w.heap.size 22 i22 _ 1 8 Tryf.underlying24 hi22 hz22 hs22 hb22 rfl (by decide) u5 (j - lo) _ rfl (hownT.alloc _) ⟨wA.heap.size, 0, none⟩ 1 1 [.float .f64 (tW h0 j)] rfl rfl (one_lies rfl) one_cell (by omega) (by unfold maxLen; omega) (by omega) (by simp; omega) _ rfl ?_; intro g1 c1 w1 hown1 hgrow1 hat1 hlt1; have hownH1 := own_grown (hownH.alloc _) hgrow1 (fun g hg e => hdis g e hg); have hsz1 : w.heap.size ≤ w1.heap.size := by (have := hgrow1.size; simp at this; omega)) | (at_builtin; refine wpList_append_lies _ rfl (.tmp 40) (.tmp 42) 24 rfl w.heap.size 22 i22 _ 1 8 Tryf.underlying24 hi22 hz22 hs22 hb22 rfl (by decide) u6 (j - lo) _ rfl (hownH1.alloc _) ⟨w1.heap.size, 0, none⟩ 1 1 [.float .f64 (hW j)] rfl rfl (one_lies rfl) one_cell (by omega) (by unfold maxLen; omega) (by omega) (by simp; omega) _ rfl ?_; intro g2 c2 w2 hown2 hgrow2 hat2 hlt2))
              have hne : ∀ g, u6.ownBlock = some g → g ≠ g1 := fun g hg e => by
                subst e
                rcases hat1 with h | h
                · exact hdis _ h hg
                · have := (hownH.lt _ hg).2
                  simp at h; omega
              have hownT2 := own_grown (hown1.alloc (.cells #[.float .f64 (hW j)] 22)) hgrow2 (fun g hg e => by
                simp only [Value.ownBlock, Option.some.injEq] at hg
                exact hne g e hg.symm)
              have hB1 := ((hbA.alloc hszA (.cells #[.float .f64 (tW h0 j)] 22)).grown hgrow1 (by simp; omega) (own_ge hownT))
              have hB2 := ((hB1.alloc hsz1 (.cells #[.float .f64 (hW j)] 22)).grown hgrow2 (by simp; omega) (own_ge hownH1))
              go_roundw
              case rel => exact ⟨j + 1, by omega, by go_num, ⟨by rw [ec']; rw [cells1, ej]; exact hownT2, by rw [ec']; rw [cells1, ej]; exact hown2, fun g hg e => by
                  simp only [Value.ownBlock, Option.some.injEq] at hg e
                  rcases hat2 with h | h
                  · exact hne g2 h (by omega)
                  · simp at h; omega, hfar', by have := hgrow2.size; simp at this; omega⟩, hB2⟩
              case measure => simp [intOf]; omega
            · have o2 := ord_nltB v2 fv_one (by have := mt (hhi' j (by omega)).1 hR; grind)
              have hnx : Hid (MInv h0 w.heap.size lo hi (j + 1) u5 u6 wA) := ⟨by rw [show min (j + 1) hi - lo = min j hi - lo by omega]; exact hownT, by rw [show min (j + 1) hi - lo = min j hi - lo by omega]; exact hownH, hdis, hfar', hszA⟩
              go_wp2_with (first | (go_at_call 10; refine (cA _).mono ?_; rintro e w' ⟨⟨r, rfl, hr⟩, hw⟩; rw [hw]; clear hw) | (go_at_call 10; refine (cB _).mono ?_; rintro e w' ⟨⟨r', rfl, hr'⟩, hw⟩; rw [hw]; clear hw))
              go_roundw
              case rel => exact ⟨j + 1, by omega, by go_num, hnx.out, hbA⟩
              case measure => simp [intOf]; omega
        · go_wp2_with (first | (go_at_call 10; refine (cA _).mono ?_; rintro e w' ⟨⟨r, rfl, hr⟩, hw⟩; rw [hw]; clear hw) | (go_at_call 10; refine (cB _).mono ?_; rintro e w' ⟨⟨r', rfl, hr'⟩, hw⟩; rw [hw]; clear hw))
          exact bodyPost_ret (v := .tuple #[.slice none 0 0, .slice none 0 0, .bool false]) (by simp [results, Tryf.results6, go_sem]) rfl ⟨Or.inl rfl, hbA⟩
      · go_wp2_with (go_at_call 10; refine (cA _).mono ?_; rintro e w' ⟨⟨r, rfl, hr⟩, hw⟩; rw [hw]; clear hw)
        exact bodyPost_ret (v := .tuple #[.slice none 0 0, .slice none 0 0, .bool false]) (by simp [results, Tryf.results6, go_sem]) rfl ⟨Or.inl rfl, hbA⟩
    · have hjn : ¬ (j : Int) - 24 ≤ 24 := by omega
      have hres : Hid (IsModel h0 w.heap.size lo hi (.returned (.tuple #[u5, u6, .bool true])) wA) := Or.inr ⟨u5, u6, rfl, by rw [show min j hi - lo = hi - lo by omega] at hownT; exact hownT, by rw [show min j hi - lo = hi - lo by omega] at hownH; exact hownH, fun m hm => hfar m (by omega)⟩
      go_wp2_with fail
      exact bodyPost_ret (v := .tuple #[u5, u6, .bool true]) (by simp [results, Tryf.results6, go_sem]) rfl ⟨hres.out, hbA⟩
end Go.Proofs.Qxb6609382aFmt.W
