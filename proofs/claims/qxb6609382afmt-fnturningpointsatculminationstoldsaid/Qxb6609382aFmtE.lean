import Derived.Test.Qxb6609382aFmtD
import Derived.Test.Qxb6609382aFmtFh
import Derived.Laws.BitsAll
import Derived.Deep.DeepCutAuto
namespace Go.Proofs.Qxb6609382aFmt.W
open Go.RowKit Go.Proofs.Qxb6609382aFmt.Fl

theorem fv_tiny : fv 4503599627370496 = some (p2 (-1022)) := by decide +kernel

set_option maxHeartbeats 400000 in
theorem normalize_any (x : Nat) (q : Rat) (hx : fv x = some q) (h1 : 1 ≤ q) (w : World) :
    Calls Tryf.prog 54 #[.float .f64 x] w fun e w' => e = .returned (.tuple #[.float .f64 x, .int .i64 0]) ∧ w' = w := by
  have hlt := fv_lt hx
  obtain ⟨b, hb, hb0, _, hab⟩ := abs_le hx (A := q) ⟨by grind, by grind⟩
  have h2 := ord_gt hb fv_tiny (by
    have : p2 (-1022) < 1 := by decide +kernel
    grind)
  go_enter Tryf.func54, Tryf.ntmps54
  go_wp2_with (refine (abs_any x hlt _).mono ?_; rintro e w' ⟨rfl, rfl⟩)
  go_ret2
  exact ⟨rfl, rfl⟩

theorem andNot_exp (x f e : Nat) (hx : x < 9223372036854775808) (hxe : x = e * 4503599627370496 + f) (hf : f < 4503599627370496) : bits .andNot .u64 (x : Int) 9218868437227405312 = (f : Int) := by
  rw [u64_andNot (x : Int) 9218868437227405312 (by omega) (by omega) (by omega) (by omega)]
  congr 1
  show x &&& 9227875636482146303 = f
  have e1 : (9227875636482146303 : Nat) = 2 ^ 63 ||| (2 ^ 52 - 1) := by decide +kernel
  have e2 : x &&& 2 ^ 63 = 0 := by
    apply Nat.eq_of_testBit_eq
    intro i
    rw [Nat.testBit_and, Nat.zero_testBit]
    by_cases h : i = 63
    · subst h; rw [Nat.testBit_lt_two_pow (by omega)]; rfl
    · rw [Nat.testBit_two_pow_of_ne (fun h' => h h'.symm), Bool.and_false]
  rw [e1, Nat.and_or_distrib_left, e2, Nat.zero_or, Nat.and_two_pow_sub_one_eq_mod]
  omega
theorem or_exp (f : Nat) (hf : f < 4503599627370496) : bits .or .u64 (f : Int) 4602678819172646912 = ((4602678819172646912 + f : Nat) : Int) := by
  rw [u64_or (f : Int) 4602678819172646912 (by omega) (by omega) (by omega) (by omega)]
  congr 1
  show f ||| 4602678819172646912 = _
  have := Nat.two_pow_add_eq_or_of_lt (i := 52) (b := f) hf 1022
  rw [Nat.or_comm, show (4602678819172646912 : Nat) = 2 ^ 52 * 1022 by decide, ← this]
theorem and_2047 (e : Nat) (he : e < 2048) : bits .and .u64 (e : Int) 2047 = (e : Int) := by
  rw [u64_and (e : Int) 2047 (by omega) (by omega) (by omega) (by omega)]
  congr 1
  show e &&& 2 ^ 11 - 1 = _
  rw [Nat.and_two_pow_sub_one_eq_mod]
  omega

set_option maxHeartbeats 1000000 in
theorem frexp_walk (x e f g : Nat) (q : Rat) (hx : fv x = some q) (hp : x < 9223372036854775808) (h1 : 1 ≤ q) (hq : q ≤ 1000) (hxe : x = e * 4503599627370496 + f) (hf : f < 4503599627370496) (he1 : 1025 ≤ e) (he2 : e ≤ 1029) (hg : 4602678819172646912 + f = g) (w : World) :
    Calls Tryf.prog 50 #[.float .f64 x] w fun r w' => r = .returned (.tuple #[.float .f64 g, .int .i64 ((e : Int) - 1022)]) ∧ w' = w := by
  have hz := ord_gt hx fv_zero (by grind)
  have b1 := andNot_exp x f e hp hxe hf
  have b2 := or_exp f hf
  rw [hg] at b2
  have b3 : (x : Int) / 4503599627370496 = (e : Int) := by omega
  have b4 := and_2047 e (by omega)
  clear hxe hf hg hp
  go_enter Tryf.func50, Tryf.ntmps50
  go_wp2_with (first | (refine (isNaN_any x q hx _).mono ?_; rintro e w' ⟨rfl, rfl⟩) | (refine (isInf_any x q hx ⟨hq, by grind⟩ _).mono ?_; rintro e w' ⟨rfl, rfl⟩) | (refine (normalize_any x q hx h1 _).mono ?_; rintro e w' ⟨rfl, rfl⟩) | simp only [bits_run, frombits_run])
  go_ret2
  have hE : (e : Int) - 1023 + 1 = (e : Int) - 1022 := by omega
  refine ⟨?_, rfl⟩
  show Ending.returned (.tuple #[.float .f64 g, .int .i64 ((e : Int) - 1023 + 1)]) = _
  rw [hE]

set_option maxHeartbeats 1000000 in
theorem frexp_any (x e f g : Nat) (q : Rat) (hx : fv x = some q) (hp : x < 9223372036854775808) (h1 : 1 ≤ q) (hq : q ≤ 1000) (hxe : x = e * 4503599627370496 + f) (hf : f < 4503599627370496) (he1 : 1025 ≤ e) (he2 : e ≤ 1029) (hg : 4602678819172646912 + f = g) (w : World) :
    Calls Tryf.prog 44 #[.float .f64 x] w fun r w' => r = .returned (.tuple #[.float .f64 g, .int .i64 ((e : Int) - 1022)]) ∧ w' = w := by
  have hc := frexp_walk x e f g q hx hp h1 hq hxe hf he1 he2 hg
  clear hxe hf hg hp
  go_enter Tryf.func44, Tryf.ntmps44
  go_wp2_with (refine (hc _).mono ?_; rintro e w' ⟨rfl, rfl⟩)
  go_ret2
  exact ⟨rfl, rfl⟩


set_option maxHeartbeats 1000000 in
theorem ldexp_walk (Y F Z n : Nat) (hn : n ≤ 4) (q : Rat) (hY : fv Y = some q) (hq : Bd q 1000) (h1 : 1 ≤ q) (e : Nat) (he1 : 1025 ≤ e) (he2 : e ≤ 1025) (b0 : (Y : Int) / 4503599627370496 = (e : Int)) (b3 : bits .and .i64 (e : Int) 2047 = (e : Int))
    (b1 : bits .andNot .u64 (Y : Int) 9218868437227405312 = (F : Int)) (b2 : bits .or .u64 (F : Int) (((n : Int) + ((e : Int) - 1023) + 1023) * 4503599627370496) = (Z : Int)) (hZ : Ieee.double.mul 4607182418800017408 Z = some Z) (w : World) :
    Calls Tryf.prog 52 #[.float .f64 Y, .int .i64 n] w fun r w' => r = .returned (.float .f64 Z) ∧ w' = w := by
  have hz := ord_gt hY fv_zero (by grind)
  have hm := runMul hZ
  go_enter Tryf.func52, Tryf.ntmps52
  go_wp2_with (first | (refine (isNaN_any Y q hY _).mono ?_; rintro e w' ⟨rfl, rfl⟩) | (refine (isInf_any Y q hY hq _).mono ?_; rintro e w' ⟨rfl, rfl⟩) | (refine (normalize_any Y q hY h1 _).mono ?_; rintro e w' ⟨rfl, rfl⟩) | simp only [bits_run, frombits_run])
  go_ret
  exact ⟨rfl, rfl⟩

theorem ldexp_facts (n : Nat) (hn : n ≤ 4) : bits .or .u64 ((2570638124657944 : Nat) : Int) (((n : Int) + (((1025 : Nat) : Int) - 1023) + 1023) * 4503599627370496) = ((4618760256179416344 + n * 4503599627370496 : Nat) : Int) ∧ Ieee.double.mul 4607182418800017408 (4618760256179416344 + n * 4503599627370496) = some (4618760256179416344 + n * 4503599627370496) := by
  have : n = 0 ∨ n = 1 ∨ n = 2 ∨ n = 3 ∨ n = 4 := by omega
  rcases this with rfl | rfl | rfl | rfl | rfl <;> exact ⟨by decide +kernel, by decide +kernel⟩

theorem ldexpl_any (Y : Nat) (hY : 4618760256179416344 = Y) (n : Nat) (hn : n ≤ 4) (w : World) :
    Calls Tryf.prog 52 #[.float .f64 Y, .int .i64 n] w fun r w' => r = .returned (.float .f64 (4618760256179416344 + n * 4503599627370496)) ∧ w' = w := by
  subst hY
  have ⟨h1, h2⟩ := ldexp_facts n hn
  exact ldexp_walk 4618760256179416344 2570638124657944 _ n hn TP fv_TP (by constructor <;> decide +kernel) (by decide +kernel) 1025 (by decide) (by decide) (by decide) (by decide +kernel) (by decide +kernel) h1 h2 w

set_option maxHeartbeats 1000000 in
theorem ldexp_any (Y : Nat) (hY : 4618760256179416344 = Y) (n Z : Nat) (hn : n ≤ 4) (hZ : 4618760256179416344 + n * 4503599627370496 = Z) (w : World) :
    Calls Tryf.prog 45 #[.float .f64 Y, .int .i64 n] w fun r w' => r = .returned (.float .f64 Z) ∧ w' = w := by
  have hc := ldexpl_any Y hY n hn
  rw [hZ] at hc
  clear hZ hY
  go_enter Tryf.func45, Tryf.ntmps45
  go_wp2_with (refine (hc _).mono ?_; rintro e w' ⟨rfl, rfl⟩)
  go_ret
  exact ⟨rfl, rfl⟩
end Go.Proofs.Qxb6609382aFmt.W
