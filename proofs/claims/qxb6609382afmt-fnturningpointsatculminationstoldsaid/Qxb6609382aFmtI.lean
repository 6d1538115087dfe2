import Derived.Test.Qxb6609382aFmtH
namespace Go.Proofs.Qxb6609382aFmt.W
open Go.RowKit Go.Proofs.Qxb6609382aFmt.Fl

theorem fv_pi : fv 4614256656552045848 = some (TP / 2) := by decide +kernel
/-- a carried by whole turns into [-pi, pi]. -/
def IsSigned (a : Rat) (e : Ending) : Prop := ∃ (r : Nat) (q : Rat) (m : Int), e = .returned (.float .f64 r) ∧ fv r = some q ∧ Bd q (TP / 2 + 1 / 100000000000000) ∧ Bd (q - (a - (m : Rat) * TP)) (3 / 100000000000000)

set_option maxHeartbeats 1000000 in
theorem signed_any (x : Nat) (a : Rat) (hx : fv x = some a) (ha : Bd a 100) (w : World) :
    Calls Tryf.prog 23 #[.float .f64 x] w fun r w' => IsSigned a r ∧ w' = w := by
  have tl := TP_lo
  have th := TP_hi
  obtain ⟨s, hs, qs, hqs, es, bs⟩ := Fx.add 7 104 (15 / 1000000000000000) (Fx.lit hx ha) (Fx.lit fv_pi (A := 4) (by constructor <;> decide +kernel)) (by decide +kernel)
  have fs := runAdd hs
  have e1 := es.1; have e2 := es.2; have b1 := bs.1; have b2 := bs.2
  have hN := normalized_any s qs hqs ⟨by grind, by grind⟩
  go_enter Tryf.func23, Tryf.ntmps23
  go_wp2_with (refine (hN _).mono ?_; rintro e w' ⟨⟨r0, q0, m, rfl, hq0, h1, h2, h3⟩, rfl⟩; obtain ⟨t, ht, qt, hqt, et, _⟩ := Fx.sub' 2 (32 / 10) (1 / 1000000000000000) (Fx.lit hq0 (A := 7) ⟨by grind, by grind⟩) (Fx.lit fv_pi (A := 4) (by constructor <;> decide +kernel)) ⟨by grind, by grind⟩ (by decide +kernel); have ft := runSub ht)
  go_ret
  have e3 := et.1; have e4 := et.2; have c1 := h3.1; have c2 := h3.2
  exact ⟨⟨t, qt, m, rfl, hqt, ⟨by grind, by grind⟩, ⟨by grind, by grind⟩⟩, rfl⟩
end Go.Proofs.Qxb6609382aFmt.W
