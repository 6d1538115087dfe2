import Derived.Test.Qxb6609382aFmtB
namespace Go.Proofs.Qxb6609382aFmt.W
open Go.RowKit Go.Proofs.Qxb6609382aFmt.Fl

/-- math.cos at a number within 100. -/
theorem cosl_any (x : Nat) (a : Rat) (hx : fv x = some a) (ha : Bd a 100) :
    ∃ r, IsCos a r ∧ ∀ w, Glob w → Calls Tryf.prog 37 #[.float .f64 x] w fun e w' => e = .returned (.float .f64 r) ∧ w' = w := by
  obtain ⟨b, hb, hb0, hb1, hab⟩ := abs_le hx ha
  obtain ⟨p, n, hp, hn, hn9, _, hred⟩ := reduce hb hb0 hb1
  obtain ⟨m1, d1, m2, d2, m3, z, e1, e2, e3, e4, e5, e6, fz, bz⟩ := hred (n + n % 2) rfl
  replace fz := fz.mono (B := 393 / 500) (by decide +kernel) (Rat.le_refl)
  obtain ⟨zz, e7, fzz⟩ := zz_word fz
  have hG := oct_G (ζ := b - ((n + n % 2 : Nat) : Rat) * Q4) hab (by omega) rfl bz
  have hcases : (n + n % 2) % 8 = 0 ∨ (n + n % 2) % 8 = 2 ∨ (n + n % 2) % 8 = 4 ∨ (n + n % 2) % 8 = 6 := by omega
  have hpc : n % 2 = 0 ∨ n % 2 = 1 := by omega
  rcases hcases with ho | ho | ho | ho
  · obtain ⟨r1, r2, r3, r4, r5, r6, r7, r8, r9, r10, r11, r12, r13, r14, r15, g1, g2, g3, g4, g5, g6, g7, g8, g9, g10, g11, g12, g13, g14, g15, fr⟩ := cos_chain fzz
    refine ⟨r15, ⟨octV (n + n % 2) (b - ((n + n % 2 : Nat) : Rat) * Q4), ?_, hG⟩, fun w hg => ?_⟩
    · unfold octV
      simp only [ho]
      exact fr
    · rcases hpc with hq | hq
      · rw [hq] at ho e1 e3 e5
        rw [Nat.add_zero] at ho e1 e3 e5
        exact cos_walk_0_0 x a hx ha _ rfl b hb hb1 p n m1 d1 m2 d2 m3 z zz _ _ _ _ _ _ _ _ _ _ _ _ _ _ _ (by omega) hn hq ho hp e1 e2 e3 e4 e5 e6 e7 g1 g2 g3 g4 g5 g6 g7 g8 g9 g10 g11 g12 g13 g14 g15 w hg
      · rw [hq] at ho e1 e3 e5
        exact cos_walk_0_1 x a hx ha _ rfl b hb hb1 p n m1 d1 m2 d2 m3 z zz _ _ _ _ _ _ _ _ _ _ _ _ _ _ _ (by omega) hn hq ho hp e1 e2 e3 e4 e5 e6 e7 g1 g2 g3 g4 g5 g6 g7 g8 g9 g10 g11 g12 g13 g14 g15 w hg
  · obtain ⟨r1, r2, r3, r4, r5, r6, r7, r8, r9, r10, r11, r12, r13, g1, g2, g3, g4, g5, g6, g7, g8, g9, g10, g11, g12, g13, fr⟩ := sin_chain fz fzz
    refine ⟨Op.negFloat .f64 r13, ⟨octV (n + n % 2) (b - ((n + n % 2 : Nat) : Rat) * Q4), ?_, hG⟩, fun w hg => ?_⟩
    · unfold octV
      simp only [ho]
      exact fr.neg
    · rcases hpc with hq | hq
      · rw [hq] at ho e1 e3 e5
        rw [Nat.add_zero] at ho e1 e3 e5
        exact cos_walk_2_0 x a hx ha _ rfl b hb hb1 p n m1 d1 m2 d2 m3 z zz _ _ _ _ _ _ _ _ _ _ _ _ _ (by omega) hn hq ho hp e1 e2 e3 e4 e5 e6 e7 g1 g2 g3 g4 g5 g6 g7 g8 g9 g10 g11 g12 g13 w hg
      · rw [hq] at ho e1 e3 e5
        exact cos_walk_2_1 x a hx ha _ rfl b hb hb1 p n m1 d1 m2 d2 m3 z zz _ _ _ _ _ _ _ _ _ _ _ _ _ (by omega) hn hq ho hp e1 e2 e3 e4 e5 e6 e7 g1 g2 g3 g4 g5 g6 g7 g8 g9 g10 g11 g12 g13 w hg
  · obtain ⟨r1, r2, r3, r4, r5, r6, r7, r8, r9, r10, r11, r12, r13, r14, r15, g1, g2, g3, g4, g5, g6, g7, g8, g9, g10, g11, g12, g13, g14, g15, fr⟩ := cos_chain fzz
    refine ⟨Op.negFloat .f64 r15, ⟨octV (n + n % 2) (b - ((n + n % 2 : Nat) : Rat) * Q4), ?_, hG⟩, fun w hg => ?_⟩
    · unfold octV
      simp only [ho]
      exact fr.neg
    · rcases hpc with hq | hq
      · rw [hq] at ho e1 e3 e5
        rw [Nat.add_zero] at ho e1 e3 e5
        exact cos_walk_4_0 x a hx ha _ rfl b hb hb1 p n m1 d1 m2 d2 m3 z zz _ _ _ _ _ _ _ _ _ _ _ _ _ _ _ (by omega) hn hq ho hp e1 e2 e3 e4 e5 e6 e7 g1 g2 g3 g4 g5 g6 g7 g8 g9 g10 g11 g12 g13 g14 g15 w hg
      · rw [hq] at ho e1 e3 e5
        exact cos_walk_4_1 x a hx ha _ rfl b hb hb1 p n m1 d1 m2 d2 m3 z zz _ _ _ _ _ _ _ _ _ _ _ _ _ _ _ (by omega) hn hq ho hp e1 e2 e3 e4 e5 e6 e7 g1 g2 g3 g4 g5 g6 g7 g8 g9 g10 g11 g12 g13 g14 g15 w hg
  · obtain ⟨r1, r2, r3, r4, r5, r6, r7, r8, r9, r10, r11, r12, r13, g1, g2, g3, g4, g5, g6, g7, g8, g9, g10, g11, g12, g13, fr⟩ := sin_chain fz fzz
    refine ⟨r13, ⟨octV (n + n % 2) (b - ((n + n % 2 : Nat) : Rat) * Q4), ?_, hG⟩, fun w hg => ?_⟩
    · unfold octV
      simp only [ho]
      exact fr
    · rcases hpc with hq | hq
      · rw [hq] at ho e1 e3 e5
        rw [Nat.add_zero] at ho e1 e3 e5
        exact cos_walk_6_0 x a hx ha _ rfl b hb hb1 p n m1 d1 m2 d2 m3 z zz _ _ _ _ _ _ _ _ _ _ _ _ _ (by omega) hn hq ho hp e1 e2 e3 e4 e5 e6 e7 g1 g2 g3 g4 g5 g6 g7 g8 g9 g10 g11 g12 g13 w hg
      · rw [hq] at ho e1 e3 e5
        exact cos_walk_6_1 x a hx ha _ rfl b hb hb1 p n m1 d1 m2 d2 m3 z zz _ _ _ _ _ _ _ _ _ _ _ _ _ (by omega) hn hq ho hp e1 e2 e3 e4 e5 e6 e7 g1 g2 g3 g4 g5 g6 g7 g8 g9 g10 g11 g12 g13 w hg

set_option maxHeartbeats 400000 in
/-- math.Cos. -/
theorem cos_any (x : Nat) (a : Rat) (hx : fv x = some a) (ha : Bd a 100) :
    ∃ r, IsCos a r ∧ ∀ w, Glob w → Calls Tryf.prog 33 #[.float .f64 x] w fun e w' => e = .returned (.float .f64 r) ∧ w' = w := by
  obtain ⟨r, h1, h2⟩ := cosl_any x a hx ha
  refine ⟨r, h1, fun w hg => ?_⟩
  go_enter Tryf.func33, Tryf.ntmps33
  go_wp2_with (refine (h2 _ hg).mono ?_; rintro e w' ⟨rfl, rfl⟩)
  go_ret
  exact ⟨rfl, rfl⟩
end Go.Proofs.Qxb6609382aFmt.W