import Derived.Test.Qxb6609382aFmtQa
namespace Go.Proofs.Qxb6609382aFmt.W
open Go.RowKit Go.Proofs.Qxb6609382aFmt.Fl

theorem fv_nhalf : fv 13837628693406821656 = some (-(TP / 2)) := by decide +kernel
theorem fv_m128 : fv 13862079653046386688 = some (-128) := by decide +kernel
theorem fv_128 : fv 4638707616191610880 = some 128 := by decide +kernel
theorem TP_Q4 : Bd (TP - 8 * Q4) (1 / 1000000000000000) := by constructor <;> decide +kernel
theorem TP_lo' : 31415926 / 5000000 ≤ TP := by decide +kernel
theorem TP_hi' : TP ≤ 31415927 / 5000000 := by decide +kernel

theorem flo_lt {a b : Rat} (h0 : 0 ≤ a) (h : a + 1 ≤ b) : a.floor.toNat < b.floor.toNat := by
  have h1 : (0 : Int) ≤ a.floor := Rat.le_floor_iff.2 (by simpa using h0)
  have h2 : a.floor + 1 ≤ b.floor := by
    apply Rat.le_floor_iff.2
    rw [Rat.intCast_add]
    have := Rat.floor_le a
    simp; grind
  omega

/-- A word near the K'-th multiple of pi, K' even just where K is. -/
def Tz1 (K : Int) (v : Value) : Prop := ∃ (x : Nat) (a : Rat) (J : Int), v = .float .f64 x ∧ fv x = some a ∧ (J - K) % 2 = 0 ∧ -26 ≤ J ∧ J ≤ 26 ∧ Bd (a - (J : Rat) * (4 * Q4)) (15 / 100000000 + (26 - (J : Rat)) * (1 / 10000000000000))
def Tz2 (K : Int) (v : Value) : Prop := ∃ (x : Nat) (a : Rat) (J : Int), v = .float .f64 x ∧ fv x = some a ∧ (J - K) % 2 = 0 ∧ -26 ≤ J ∧ J ≤ 1 ∧ Bd (a - (J : Rat) * (4 * Q4)) (16 / 100000000 + (26 + (J : Rat)) * (1 / 10000000000000))
def tz1m (v : Value) : Nat := (wv (fltOf v) + 300).floor.toNat
def tz2m (v : Value) : Nat := (300 - wv (fltOf v)).floor.toNat
def IsTz (K : Int) (e : Ending) : Prop := ∃ (r : Nat) (q : Rat), e = .returned (.tuple #[.float .f64 r, .bool true]) ∧ fv r = some q ∧ ((K % 2 = 0 ∧ Bd q (2 / 10000000)) ∨ (K % 2 = 1 ∧ (TP / 2 - 2 / 10000000 ≤ q ∨ TP / 2 - 2 / 10000000 ≤ -q)))

theorem castI {J : Int} {n : Int} (h : J ≤ n) : (J : Rat) ≤ (n : Rat) := Rat.intCast_le_intCast.2 h

theorem tz_bound {a : Rat} {J : Int} {e : Rat} (h1 : -26 ≤ J) (h2 : J ≤ 26) (hb : Bd (a - (J : Rat) * (4 * Q4)) e) (he : e ≤ 1) : Bd a 100 := by
  have c1 := castI h1; have c2 := castI h2; have b1 := hb.1; have b2 := hb.2
  simp only [Q4] at b1 b2
  simp at c1 c2
  exact ⟨by grind, by grind⟩

theorem tz_down {x : Nat} {a : Rat} {J K : Int} (hx : fv x = some a) (hp : (J - K) % 2 = 0) (h1 : -26 ≤ J) (h2 : J ≤ 26) (hb : Bd (a - (J : Rat) * (4 * Q4)) (15 / 100000000 + (26 - (J : Rat)) * (1 / 10000000000000))) (hge : TP / 2 ≤ a) :
    ∃ r, Ieee.double.sub x 4618760256179416344 = some r ∧ Tz1 K (.float .f64 r) ∧ tz1m (.float .f64 r) < tz1m (.float .f64 x) := by
  have c1 := castI h1; have c2 := castI h2
  simp at c1 c2
  have ba := tz_bound h1 h2 hb (by grind)
  have ba1 := ba.1; have ba2 := ba.2; have t1 := TP_lo'; have t2 := TP_hi'
  obtain ⟨r, e1, f1⟩ := Fx.sub' 8 110 (3 / 100000000000000) (Fx.lit hx ba) (Fx.lit fv_TP (A := 7) ⟨by grind, by grind⟩) ⟨by grind, by grind⟩ (by decide +kernel)
  obtain ⟨q, v, e, _⟩ := f1
  have b1 := hb.1; have b2 := hb.2; have e3 := e.1; have e4 := e.2; have p1 := TP_Q4.1; have p2 := TP_Q4.2
  have hJ : 1 ≤ J := by
    rcases Int.lt_or_le J 1 with h | h
    · exfalso
      have c3 := castI (show J ≤ 0 by omega)
      simp only [Q4] at b1 b2
      simp at c3
      grind
    · exact h
  have c4 := castI hJ
  have ej : ((J - 2 : Int) : Rat) = (J : Rat) - 2 := by rw [Rat.intCast_sub]; rfl
  refine ⟨r, e1, ⟨r, q, J - 2, rfl, v, by omega, by omega, by omega, ?_⟩, ?_⟩
  · rw [ej]
    simp only [Q4] at b1 b2 p1 p2 ⊢
    exact ⟨by grind, by grind⟩
  · simp only [tz1m, fltOf]
    rw [(fv_wv v).2, (fv_wv hx).2]
    exact flo_lt (by grind) (by grind)

theorem tz_up {x : Nat} {a : Rat} {J K : Int} (hx : fv x = some a) (hp : (J - K) % 2 = 0) (h1 : -26 ≤ J) (h2 : J ≤ 1) (hb : Bd (a - (J : Rat) * (4 * Q4)) (16 / 100000000 + (26 + (J : Rat)) * (1 / 10000000000000))) (hlt : a < -(TP / 2)) :
    ∃ r, Ieee.double.add x 4618760256179416344 = some r ∧ Tz2 K (.float .f64 r) ∧ tz2m (.float .f64 r) < tz2m (.float .f64 x) := by
  have c1 := castI h1; have c2 := castI h2
  simp at c1 c2
  have ba := tz_bound h1 (by omega) hb (by grind)
  have ba1 := ba.1; have ba2 := ba.2; have t1 := TP_lo'; have t2 := TP_hi'
  obtain ⟨r, e1, f1⟩ := Fx.add' 8 110 (3 / 100000000000000) (Fx.lit hx ba) (Fx.lit fv_TP (A := 7) ⟨by grind, by grind⟩) ⟨by grind, by grind⟩ (by decide +kernel)
  obtain ⟨q, v, e, _⟩ := f1
  have b1 := hb.1; have b2 := hb.2; have e3 := e.1; have e4 := e.2; have p1 := TP_Q4.1; have p2 := TP_Q4.2
  have hJ : J ≤ -1 := by
    rcases Int.lt_or_le (-1) J with h | h
    · exfalso
      have c3 := castI (show 0 ≤ J by omega)
      simp only [Q4] at b1 b2
      simp at c3
      grind
    · exact h
  have c4 := castI hJ
  have ej : ((J + 2 : Int) : Rat) = (J : Rat) + 2 := by rw [Rat.intCast_add]; rfl
  refine ⟨r, e1, ⟨r, q, J + 2, rfl, v, by omega, by omega, by omega, ?_⟩, ?_⟩
  · rw [ej]
    simp only [Q4] at b1 b2 p1 p2 ⊢
    exact ⟨by grind, by grind⟩
  · simp only [tz2m, fltOf]
    rw [(fv_wv v).2, (fv_wv hx).2]
    exact flo_lt (by grind) (by grind)

theorem tz_mid {x : Nat} {a : Rat} {J K : Int} (hx : fv x = some a) (hp : (J - K) % 2 = 0) (h1 : -26 ≤ J) (h2 : J ≤ 26) (hb : Bd (a - (J : Rat) * (4 * Q4)) (15 / 100000000 + (26 - (J : Rat)) * (1 / 10000000000000))) (hlt : a < TP / 2) : Tz2 K (.float .f64 x) := by
  have c1 := castI h1; have c2 := castI h2
  simp at c1 c2
  have t1 := TP_lo'; have t2 := TP_hi'; have b1 := hb.1; have b2 := hb.2
  have hJ : J ≤ 1 := by
    rcases Int.lt_or_le 1 J with h | h
    · exfalso
      have c3 := castI (show 2 ≤ J by omega)
      simp only [Q4] at b1 b2
      simp at c3
      grind
    · exact h
  exact ⟨x, a, J, rfl, hx, hp, h1, hJ, ⟨by grind, by grind⟩⟩

theorem tz_end {x : Nat} {a : Rat} {J K : Int} (hx : fv x = some a) (hp : (J - K) % 2 = 0) (h1 : -26 ≤ J) (h2 : J ≤ 1) (hb : Bd (a - (J : Rat) * (4 * Q4)) (16 / 100000000 + (26 + (J : Rat)) * (1 / 10000000000000))) (hge : -(TP / 2) ≤ a) : IsTz K (.returned (.tuple #[.float .f64 x, .bool true])) := by
  have t1 := TP_lo'; have t2 := TP_hi'; have b1 := hb.1; have b2 := hb.2; have p1 := TP_Q4.1; have p2 := TP_Q4.2
  have hJ : -1 ≤ J := by
    rcases Int.lt_or_le J (-1) with h | h
    · exfalso
      have c3 := castI (show J ≤ -2 by omega)
      have c1 := castI h1
      simp only [Q4] at b1 b2
      simp at c3 c1
      grind
    · exact h
  refine ⟨x, a, rfl, hx, ?_⟩
  have hcase : J = -1 ∨ J = 0 ∨ J = 1 := by omega
  simp only [Q4] at b1 b2 p1 p2
  rcases hcase with rfl | rfl | rfl
  · refine Or.inr ⟨by omega, Or.inr ?_⟩
    simp at b1 b2
    grind
  · refine Or.inl ⟨by omega, ?_⟩
    simp at b1 b2
    exact ⟨by grind, by grind⟩
  · refine Or.inr ⟨by omega, Or.inl ?_⟩
    simp at b1 b2
    grind

set_option maxHeartbeats 1000000 in
theorem tz_walk (x : Nat) (a : Rat) (K : Int) (hx : fv x = some a) (h1 : -26 ≤ K) (h2 : K ≤ 26) (hb : Bd (a - (K : Rat) * (4 * Q4)) (15 / 100000000)) (w : World) :
    Calls Tryf.prog 15 #[.float .f64 x] w fun e w' => IsTz K e ∧ w' = w := by
  have c2 := castI h2
  simp at c2
  have ba := tz_bound h1 h2 hb (by decide +kernel)
  have ba1 := ba.1; have ba2 := ba.2; have b1 := hb.1; have b2 := hb.2
  have o1 := ord_gt hx fv_m128 (by grind)
  have o2 := ord_lt hx fv_128 (by grind)
  have hstart : Hid (Tz1 K (.float .f64 x)) := ⟨x, a, K, rfl, hx, by omega, h1, h2, ⟨by grind, by grind⟩⟩
  clear hb b1 b2 ba ba1 ba2 c2
  go_enter Tryf.func15, Tryf.ntmps15
  go_wp2_with fail
  go_loop [0] (fun v => Tz1 K v) (fun v => tz1m v)
  case atStart => exact hstart.out
  case round =>
    obtain ⟨y, b, J, rfl, hy, hp, j1, j2, hB⟩ := hrel
    by_cases hge : TP / 2 ≤ b
    · have og := ord_ge hy fv_half_turn hge
      obtain ⟨r, e1, hnext, hmeas⟩ := tz_down hy hp j1 j2 hB hge
      have f1 := runSub e1
      have hn' : Hid (Tz1 K (.float .f64 r)) := hnext
      have hm' : Hid (tz1m (.float .f64 r) < tz1m (.float .f64 y)) := hmeas
      clear hnext hmeas
      go_wp2_with fail
      go_round
      case rel => exact hn'.out
      case measure => exact hm'.out
    · have ol := ord_lt hy fv_half_turn (by grind)
      have hmid : Hid (Tz2 K (.float .f64 y)) := tz_mid hy hp j1 j2 hB (by grind)
      go_wp2_with fail
      go_loop [0] (fun v => Tz2 K v) (fun v => tz2m v)
      case atStart => exact hmid.out
      case round =>
        obtain ⟨z, c, I, rfl, hz, hq, i1, i2, hC⟩ := hrel
        by_cases hlt : c < -(TP / 2)
        · have og := ord_lt hz fv_nhalf hlt
          obtain ⟨r, e1, hnext, hmeas⟩ := tz_up hz hq i1 i2 hC hlt
          have f1 := runAdd e1
          have hn' : Hid (Tz2 K (.float .f64 r)) := hnext
          have hm' : Hid (tz2m (.float .f64 r) < tz2m (.float .f64 z)) := hmeas
          clear hnext hmeas
          go_wp2_with fail
          go_round
          case rel => exact hn'.out
          case measure => exact hm'.out
        · have og := ord_nltB hz fv_nhalf (by grind)
          have hend : Hid (IsTz K (.returned (.tuple #[.float .f64 z, .bool true]))) := tz_end hz hq i1 i2 hC (by grind)
          go_wp2_with fail
          go_ret2
          exact ⟨hend.out, rfl⟩
end Go.Proofs.Qxb6609382aFmt.W
