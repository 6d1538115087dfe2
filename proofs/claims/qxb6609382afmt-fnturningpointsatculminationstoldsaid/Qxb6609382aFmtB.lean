import Derived.Test.Qxb6609382aFmtA
namespace Go.Proofs.Qxb6609382aFmt.W
open Go.RowKit Go.Proofs.Qxb6609382aFmt.Fl

/-- The tables and the two rates, as the program lays them. -/
structure Glob (w : World) : Prop where
  c0 : w.cell? ⟨3, 0, none⟩ = some (.float .f64 13666448263388469915)
  c1 : w.cell? ⟨3, 1, none⟩ = some (.float .f64 4477121864728985349)
  c2 : w.cell? ⟨3, 2, none⟩ = some (.float .f64 13732177093698800582)
  c3 : w.cell? ⟨3, 3, none⟩ = some (.float .f64 4537941361668146421)
  c4 : w.cell? ⟨3, 4, none⟩ = some (.float .f64 13787419979223748497)
  c5 : w.cell? ⟨3, 5, none⟩ = some (.float .f64 4586165620538955083)
  s0 : w.cell? ⟨4, 0, none⟩ = some (.float .f64 4460209587652500685)
  s1 : w.cell? ⟨4, 1, none⟩ = some (.float .f64 13716528389658582877)
  s2 : w.cell? ⟨4, 2, none⟩ = some (.float .f64 4523617212962785441)
  s3 : w.cell? ⟨4, 3, none⟩ = some (.float .f64 13774824197404483331)
  s4 : w.cell? ⟨4, 4, none⟩ = some (.float .f64 4575957461383575504)
  s5 : w.cell? ⟨4, 5, none⟩ = some (.float .f64 13818544856648471880)

theorem fv_thr : fv 4737786807993761792 = some 536870912 := by decide +kernel
theorem runToU64 {x : Nat} {n : Nat} (h : floatToIntVal .f64 x .u64 = some ((n : Nat) : Int)) (w : World) : (convert 22 69 (.float .f64 x)).run Tryf.prog w = .ok (.int .u64 (n : Int)) w :=
  run_convert_float_int w 22 69 .f64 .u64 x n (by rw [Tryf.underlying22]; rfl) Tryf.underlying69 h
theorem and_one (n : Nat) (h : n < 1000) : bits .and .u64 (n : Int) 1 = ((n % 2 : Nat) : Int) := by
  rw [u64_and (n : Int) 1 (by omega) (by omega) (by omega) (by omega)]
  congr 1
  show n &&& 2 ^ 1 - 1 = _
  rw [Nat.and_two_pow_sub_one_eq_mod]
theorem and_seven (n : Nat) (h : n < 1000) : bits .and .u64 (n : Int) 7 = ((n % 8 : Nat) : Int) := by
  rw [u64_and (n : Int) 7 (by omega) (by omega) (by omega) (by omega)]
  congr 1
  show n &&& 2 ^ 3 - 1 = _
  rw [Nat.and_two_pow_sub_one_eq_mod]

set_option maxHeartbeats 2000000 in
theorem cos_walk_0_0 (x : Nat) (a : Rat) (hx : fv x = some a) (ha : Bd a 100) (ax : Nat) (hax : absW x = ax) (b : Rat) (hb : fv ax = some b) (hb1 : b ≤ 100) (p n m1 d1 m2 d2 m3 z zz r1 r2 r3 r4 r5 r6 r7 r8 r9 r10 r11 r12 r13 r14 r15 : Nat) (hn : n < 131) (hp : floatToIntVal .f64 p .u64 = some ((n : Nat) : Int)) (hpar : n % 2 = 0) (hoc : n % 8 = 0) (e0 : Ieee.double.mul ax 4608412980311869571 = some p) (e1 : Ieee.double.mul (W64 n) 4605249456957292544 = some m1) (e2 : Ieee.double.sub ax m1 = some d1) (e3 : Ieee.double.mul (W64 n) 4495793288086814720 = some m2) (e4 : Ieee.double.sub d1 m2 = some d2) (e5 : Ieee.double.mul (W64 n) 4388835458085048688 = some m3) (e6 : Ieee.double.sub d2 m3 = some z) (e7 : Ieee.double.mul z z = some zz) (e8 : Ieee.double.mul 4602678819172646912 zz = some r1) (e9 : Ieee.double.sub 4607182418800017408 r1 = some r2) (e10 : Ieee.double.mul zz zz = some r3) (e11 : Ieee.double.mul 13666448263388469915 zz = some r4) (e12 : Ieee.double.add r4 4477121864728985349 = some r5) (e13 : Ieee.double.mul r5 zz = some r6) (e14 : Ieee.double.add r6 13732177093698800582 = some r7) (e15 : Ieee.double.mul r7 zz = some r8) (e16 : Ieee.double.add r8 4537941361668146421 = some r9) (e17 : Ieee.double.mul r9 zz = some r10) (e18 : Ieee.double.add r10 13787419979223748497 = some r11) (e19 : Ieee.double.mul r11 zz = some r12) (e20 : Ieee.double.add r12 4586165620538955083 = some r13) (e21 : Ieee.double.mul r3 r13 = some r14) (e22 : Ieee.double.add r2 r14 = some r15) (w : World) (hg : Glob w) :
    Calls Tryf.prog 37 #[.float .f64 x] w fun e w' => e = .returned (.float .f64 (r15)) ∧ w' = w := by
  have hlt := fv_lt hx
  have hth := ord_lt hb fv_thr (by have : (100 : Rat) < 536870912 := by decide +kernel
                                   grind)
  have hc0 := runToU64 hp
  have ho1 := and_one n (by omega)
  rw [hpar] at ho1
  have ho2 := and_seven n (by omega)
  rw [hoc] at ho2
  obtain ⟨c0, c1, c2, c3, c4, c5, s0, s1, s2, s3, s4, s5⟩ := hg
  have f0 := runMul e0
  have f1 := runMul e1
  have f2 := runSub e2
  have f3 := runMul e3
  have f4 := runSub e4
  have f5 := runMul e5
  have f6 := runSub e6
  have f7 := runMul e7
  have f8 := runMul e8
  have f9 := runSub e9
  have f10 := runMul e10
  have f11 := runMul e11
  have f12 := runAdd e12
  have f13 := runMul e13
  have f14 := runAdd e14
  have f15 := runMul e15
  have f16 := runAdd e16
  have f17 := runMul e17
  have f18 := runAdd e18
  have f19 := runMul e19
  have f20 := runAdd e20
  have f21 := runMul e21
  have f22 := runAdd e22
  clear e0 e1 e2 e3 e4 e5 e6 e7 e8 e9 e10 e11 e12 e13 e14 e15 e16 e17 e18 e19 e20 e21 e22
  unfold W64 at *
  go_enter Tryf.func37, Tryf.ntmps37
  go_wp2_with (first | (refine (isNaN_any x a hx _).mono ?_; rintro e w' ⟨rfl, rfl⟩) | (refine (isInf_any x a hx (ha.mono (by decide +kernel)) _).mono ?_; rintro e w' ⟨rfl, rfl⟩) | (refine (abs_any x hlt _).mono ?_; rintro e w' ⟨rfl, rfl⟩; rw [hax]))
  go_ret
  exact ⟨rfl, rfl⟩

set_option maxHeartbeats 2000000 in
theorem cos_walk_0_1 (x : Nat) (a : Rat) (hx : fv x = some a) (ha : Bd a 100) (ax : Nat) (hax : absW x = ax) (b : Rat) (hb : fv ax = some b) (hb1 : b ≤ 100) (p n m1 d1 m2 d2 m3 z zz r1 r2 r3 r4 r5 r6 r7 r8 r9 r10 r11 r12 r13 r14 r15 : Nat) (hn : n < 131) (hp : floatToIntVal .f64 p .u64 = some ((n : Nat) : Int)) (hpar : n % 2 = 1) (hoc : (n + 1) % 8 = 0) (e0 : Ieee.double.mul ax 4608412980311869571 = some p) (e1 : Ieee.double.mul (W64 (n + 1)) 4605249456957292544 = some m1) (e2 : Ieee.double.sub ax m1 = some d1) (e3 : Ieee.double.mul (W64 (n + 1)) 4495793288086814720 = some m2) (e4 : Ieee.double.sub d1 m2 = some d2) (e5 : Ieee.double.mul (W64 (n + 1)) 4388835458085048688 = some m3) (e6 : Ieee.double.sub d2 m3 = some z) (e7 : Ieee.double.mul z z = some zz) (e8 : Ieee.double.mul 4602678819172646912 zz = some r1) (e9 : Ieee.double.sub 4607182418800017408 r1 = some r2) (e10 : Ieee.double.mul zz zz = some r3) (e11 : Ieee.double.mul 13666448263388469915 zz = some r4) (e12 : Ieee.double.add r4 4477121864728985349 = some r5) (e13 : Ieee.double.mul r5 zz = some r6) (e14 : Ieee.double.add r6 13732177093698800582 = some r7) (e15 : Ieee.double.mul r7 zz = some r8) (e16 : Ieee.double.add r8 4537941361668146421 = some r9) (e17 : Ieee.double.mul r9 zz = some r10) (e18 : Ieee.double.add r10 13787419979223748497 = some r11) (e19 : Ieee.double.mul r11 zz = some r12) (e20 : Ieee.double.add r12 4586165620538955083 = some r13) (e21 : Ieee.double.mul r3 r13 = some r14) (e22 : Ieee.double.add r2 r14 = some r15) (w : World) (hg : Glob w) :
    Calls Tryf.prog 37 #[.float .f64 x] w fun e w' => e = .returned (.float .f64 (r15)) ∧ w' = w := by
  have hlt := fv_lt hx
  have hth := ord_lt hb fv_thr (by have : (100 : Rat) < 536870912 := by decide +kernel
                                   grind)
  have hc0 := runToU64 hp
  have ho1 := and_one n (by omega)
  rw [hpar] at ho1
  have ho2 := and_seven (n + 1) (by omega)
  rw [hoc] at ho2
  have hinc := incr n (by omega)
  have ho3 : ((n + 1 : Nat) : Int) = (n : Int) + 1 := by omega
  rw [ho3] at ho2
  have hw1 : IntKind.u64.wrap ((n : Int) + 1) = (n : Int) + 1 := by rw [IntKind.wrap_u64]; omega
  obtain ⟨c0, c1, c2, c3, c4, c5, s0, s1, s2, s3, s4, s5⟩ := hg
  have f0 := runMul e0
  have f1 := runMul e1
  have f2 := runSub e2
  have f3 := runMul e3
  have f4 := runSub e4
  have f5 := runMul e5
  have f6 := runSub e6
  have f7 := runMul e7
  have f8 := runMul e8
  have f9 := runSub e9
  have f10 := runMul e10
  have f11 := runMul e11
  have f12 := runAdd e12
  have f13 := runMul e13
  have f14 := runAdd e14
  have f15 := runMul e15
  have f16 := runAdd e16
  have f17 := runMul e17
  have f18 := runAdd e18
  have f19 := runMul e19
  have f20 := runAdd e20
  have f21 := runMul e21
  have f22 := runAdd e22
  have finc := runAdd hinc
  clear e0 e1 e2 e3 e4 e5 e6 e7 e8 e9 e10 e11 e12 e13 e14 e15 e16 e17 e18 e19 e20 e21 e22
  unfold W64 at *
  simp only [ho3] at f1 f3 f5 finc
  go_enter Tryf.func37, Tryf.ntmps37
  go_wp2_with (first | (refine (isNaN_any x a hx _).mono ?_; rintro e w' ⟨rfl, rfl⟩) | (refine (isInf_any x a hx (ha.mono (by decide +kernel)) _).mono ?_; rintro e w' ⟨rfl, rfl⟩) | (refine (abs_any x hlt _).mono ?_; rintro e w' ⟨rfl, rfl⟩; rw [hax]))
  go_ret
  exact ⟨rfl, rfl⟩

set_option maxHeartbeats 2000000 in
theorem cos_walk_2_0 (x : Nat) (a : Rat) (hx : fv x = some a) (ha : Bd a 100) (ax : Nat) (hax : absW x = ax) (b : Rat) (hb : fv ax = some b) (hb1 : b ≤ 100) (p n m1 d1 m2 d2 m3 z zz r1 r2 r3 r4 r5 r6 r7 r8 r9 r10 r11 r12 r13 : Nat) (hn : n < 131) (hp : floatToIntVal .f64 p .u64 = some ((n : Nat) : Int)) (hpar : n % 2 = 0) (hoc : n % 8 = 2) (e0 : Ieee.double.mul ax 4608412980311869571 = some p) (e1 : Ieee.double.mul (W64 n) 4605249456957292544 = some m1) (e2 : Ieee.double.sub ax m1 = some d1) (e3 : Ieee.double.mul (W64 n) 4495793288086814720 = some m2) (e4 : Ieee.double.sub d1 m2 = some d2) (e5 : Ieee.double.mul (W64 n) 4388835458085048688 = some m3) (e6 : Ieee.double.sub d2 m3 = some z) (e7 : Ieee.double.mul z z = some zz) (e8 : Ieee.double.mul z zz = some r1) (e9 : Ieee.double.mul 4460209587652500685 zz = some r2) (e10 : Ieee.double.add r2 13716528389658582877 = some r3) (e11 : Ieee.double.mul r3 zz = some r4) (e12 : Ieee.double.add r4 4523617212962785441 = some r5) (e13 : Ieee.double.mul r5 zz = some r6) (e14 : Ieee.double.add r6 13774824197404483331 = some r7) (e15 : Ieee.double.mul r7 zz = some r8) (e16 : Ieee.double.add r8 4575957461383575504 = some r9) (e17 : Ieee.double.mul r9 zz = some r10) (e18 : Ieee.double.add r10 13818544856648471880 = some r11) (e19 : Ieee.double.mul r1 r11 = some r12) (e20 : Ieee.double.add z r12 = some r13) (w : World) (hg : Glob w) :
    Calls Tryf.prog 37 #[.float .f64 x] w fun e w' => e = .returned (.float .f64 (Op.negFloat .f64 r13)) ∧ w' = w := by
  have hlt := fv_lt hx
  have hth := ord_lt hb fv_thr (by have : (100 : Rat) < 536870912 := by decide +kernel
                                   grind)
  have hc0 := runToU64 hp
  have ho1 := and_one n (by omega)
  rw [hpar] at ho1
  have ho2 := and_seven n (by omega)
  rw [hoc] at ho2
  obtain ⟨c0, c1, c2, c3, c4, c5, s0, s1, s2, s3, s4, s5⟩ := hg
  have f0 := runMul e0
  have f1 := runMul e1
  have f2 := runSub e2
  have f3 := runMul e3
  have f4 := runSub e4
  have f5 := runMul e5
  have f6 := runSub e6
  have f7 := runMul e7
  have f8 := runMul e8
  have f9 := runMul e9
  have f10 := runAdd e10
  have f11 := runMul e11
  have f12 := runAdd e12
  have f13 := runMul e13
  have f14 := runAdd e14
  have f15 := runMul e15
  have f16 := runAdd e16
  have f17 := runMul e17
  have f18 := runAdd e18
  have f19 := runMul e19
  have f20 := runAdd e20
  clear e0 e1 e2 e3 e4 e5 e6 e7 e8 e9 e10 e11 e12 e13 e14 e15 e16 e17 e18 e19 e20
  have hng := runNeg
  unfold W64 at *
  go_enter Tryf.func37, Tryf.ntmps37
  go_wp2_with (first | (refine (isNaN_any x a hx _).mono ?_; rintro e w' ⟨rfl, rfl⟩) | (refine (isInf_any x a hx (ha.mono (by decide +kernel)) _).mono ?_; rintro e w' ⟨rfl, rfl⟩) | (refine (abs_any x hlt _).mono ?_; rintro e w' ⟨rfl, rfl⟩; rw [hax]))
  go_ret
  exact ⟨rfl, rfl⟩

set_option maxHeartbeats 2000000 in
theorem cos_walk_2_1 (x : Nat) (a : Rat) (hx : fv x = some a) (ha : Bd a 100) (ax : Nat) (hax : absW x = ax) (b : Rat) (hb : fv ax = some b) (hb1 : b ≤ 100) (p n m1 d1 m2 d2 m3 z zz r1 r2 r3 r4 r5 r6 r7 r8 r9 r10 r11 r12 r13 : Nat) (hn : n < 131) (hp : floatToIntVal .f64 p .u64 = some ((n : Nat) : Int)) (hpar : n % 2 = 1) (hoc : (n + 1) % 8 = 2) (e0 : Ieee.double.mul ax 4608412980311869571 = some p) (e1 : Ieee.double.mul (W64 (n + 1)) 4605249456957292544 = some m1) (e2 : Ieee.double.sub ax m1 = some d1) (e3 : Ieee.double.mul (W64 (n + 1)) 4495793288086814720 = some m2) (e4 : Ieee.double.sub d1 m2 = some d2) (e5 : Ieee.double.mul (W64 (n + 1)) 4388835458085048688 = some m3) (e6 : Ieee.double.sub d2 m3 = some z) (e7 : Ieee.double.mul z z = some zz) (e8 : Ieee.double.mul z zz = some r1) (e9 : Ieee.double.mul 4460209587652500685 zz = some r2) (e10 : Ieee.double.add r2 13716528389658582877 = some r3) (e11 : Ieee.double.mul r3 zz = some r4) (e12 : Ieee.double.add r4 4523617212962785441 = some r5) (e13 : Ieee.double.mul r5 zz = some r6) (e14 : Ieee.double.add r6 13774824197404483331 = some r7) (e15 : Ieee.double.mul r7 zz = some r8) (e16 : Ieee.double.add r8 4575957461383575504 = some r9) (e17 : Ieee.double.mul r9 zz = some r10) (e18 : Ieee.double.add r10 13818544856648471880 = some r11) (e19 : Ieee.double.mul r1 r11 = some r12) (e20 : Ieee.double.add z r12 = some r13) (w : World) (hg : Glob w) :
    Calls Tryf.prog 37 #[.float .f64 x] w fun e w' => e = .returned (.float .f64 (Op.negFloat .f64 r13)) ∧ w' = w := by
  have hlt := fv_lt hx
  have hth := ord_lt hb fv_thr (by have : (100 : Rat) < 536870912 := by decide +kernel
                                   grind)
  have hc0 := runToU64 hp
  have ho1 := and_one n (by omega)
  rw [hpar] at ho1
  have ho2 := and_seven (n + 1) (by omega)
  rw [hoc] at ho2
  have hinc := incr n (by omega)
  have ho3 : ((n + 1 : Nat) : Int) = (n : Int) + 1 := by omega
  rw [ho3] at ho2
  have hw1 : IntKind.u64.wrap ((n : Int) + 1) = (n : Int) + 1 := by rw [IntKind.wrap_u64]; omega
  obtain ⟨c0, c1, c2, c3, c4, c5, s0, s1, s2, s3, s4, s5⟩ := hg
  have f0 := runMul e0
  have f1 := runMul e1
  have f2 := runSub e2
  have f3 := runMul e3
  have f4 := runSub e4
  have f5 := runMul e5
  have f6 := runSub e6
  have f7 := runMul e7
  have f8 := runMul e8
  have f9 := runMul e9
  have f10 := runAdd e10
  have f11 := runMul e11
  have f12 := runAdd e12
  have f13 := runMul e13
  have f14 := runAdd e14
  have f15 := runMul e15
  have f16 := runAdd e16
  have f17 := runMul e17
  have f18 := runAdd e18
  have f19 := runMul e19
  have f20 := runAdd e20
  have finc := runAdd hinc
  clear e0 e1 e2 e3 e4 e5 e6 e7 e8 e9 e10 e11 e12 e13 e14 e15 e16 e17 e18 e19 e20
  have hng := runNeg
  unfold W64 at *
  simp only [ho3] at f1 f3 f5 finc
  go_enter Tryf.func37, Tryf.ntmps37
  go_wp2_with (first | (refine (isNaN_any x a hx _).mono ?_; rintro e w' ⟨rfl, rfl⟩) | (refine (isInf_any x a hx (ha.mono (by decide +kernel)) _).mono ?_; rintro e w' ⟨rfl, rfl⟩) | (refine (abs_any x hlt _).mono ?_; rintro e w' ⟨rfl, rfl⟩; rw [hax]))
  go_ret
  exact ⟨rfl, rfl⟩

set_option maxHeartbeats 2000000 in
theorem cos_walk_4_0 (x : Nat) (a : Rat) (hx : fv x = some a) (ha : Bd a 100) (ax : Nat) (hax : absW x = ax) (b : Rat) (hb : fv ax = some b) (hb1 : b ≤ 100) (p n m1 d1 m2 d2 m3 z zz r1 r2 r3 r4 r5 r6 r7 r8 r9 r10 r11 r12 r13 r14 r15 : Nat) (hn : n < 131) (hp : floatToIntVal .f64 p .u64 = some ((n : Nat) : Int)) (hpar : n % 2 = 0) (hoc : n % 8 = 4) (e0 : Ieee.double.mul ax 4608412980311869571 = some p) (e1 : Ieee.double.mul (W64 n) 4605249456957292544 = some m1) (e2 : Ieee.double.sub ax m1 = some d1) (e3 : Ieee.double.mul (W64 n) 4495793288086814720 = some m2) (e4 : Ieee.double.sub d1 m2 = some d2) (e5 : Ieee.double.mul (W64 n) 4388835458085048688 = some m3) (e6 : Ieee.double.sub d2 m3 = some z) (e7 : Ieee.double.mul z z = some zz) (e8 : Ieee.double.mul 4602678819172646912 zz = some r1) (e9 : Ieee.double.sub 4607182418800017408 r1 = some r2) (e10 : Ieee.double.mul zz zz = some r3) (e11 : Ieee.double.mul 13666448263388469915 zz = some r4) (e12 : Ieee.double.add r4 4477121864728985349 = some r5) (e13 : Ieee.double.mul r5 zz = some r6) (e14 : Ieee.double.add r6 13732177093698800582 = some r7) (e15 : Ieee.double.mul r7 zz = some r8) (e16 : Ieee.double.add r8 4537941361668146421 = some r9) (e17 : Ieee.double.mul r9 zz = some r10) (e18 : Ieee.double.add r10 13787419979223748497 = some r11) (e19 : Ieee.double.mul r11 zz = some r12) (e20 : Ieee.double.add r12 4586165620538955083 = some r13) (e21 : Ieee.double.mul r3 r13 = some r14) (e22 : Ieee.double.add r2 r14 = some r15) (w : World) (hg : Glob w) :
    Calls Tryf.prog 37 #[.float .f64 x] w fun e w' => e = .returned (.float .f64 (Op.negFloat .f64 r15)) ∧ w' = w := by
  have hlt := fv_lt hx
  have hth := ord_lt hb fv_thr (by have : (100 : Rat) < 536870912 := by decide +kernel
                                   grind)
  have hc0 := runToU64 hp
  have ho1 := and_one n (by omega)
  rw [hpar] at ho1
  have ho2 := and_seven n (by omega)
  rw [hoc] at ho2
  obtain ⟨c0, c1, c2, c3, c4, c5, s0, s1, s2, s3, s4, s5⟩ := hg
  have f0 := runMul e0
  have f1 := runMul e1
  have f2 := runSub e2
  have f3 := runMul e3
  have f4 := runSub e4
  have f5 := runMul e5
  have f6 := runSub e6
  have f7 := runMul e7
  have f8 := runMul e8
  have f9 := runSub e9
  have f10 := runMul e10
  have f11 := runMul e11
  have f12 := runAdd e12
  have f13 := runMul e13
  have f14 := runAdd e14
  have f15 := runMul e15
  have f16 := runAdd e16
  have f17 := runMul e17
  have f18 := runAdd e18
  have f19 := runMul e19
  have f20 := runAdd e20
  have f21 := runMul e21
  have f22 := runAdd e22
  clear e0 e1 e2 e3 e4 e5 e6 e7 e8 e9 e10 e11 e12 e13 e14 e15 e16 e17 e18 e19 e20 e21 e22
  have hng := runNeg
  unfold W64 at *
  go_enter Tryf.func37, Tryf.ntmps37
  go_wp2_with (first | (refine (isNaN_any x a hx _).mono ?_; rintro e w' ⟨rfl, rfl⟩) | (refine (isInf_any x a hx (ha.mono (by decide +kernel)) _).mono ?_; rintro e w' ⟨rfl, rfl⟩) | (refine (abs_any x hlt _).mono ?_; rintro e w' ⟨rfl, rfl⟩; rw [hax]))
  go_ret
  exact ⟨rfl, rfl⟩

set_option maxHeartbeats 2000000 in
theorem cos_walk_4_1 (x : Nat) (a : Rat) (hx : fv x = some a) (ha : Bd a 100) (ax : Nat) (hax : absW x = ax) (b : Rat) (hb : fv ax = some b) (hb1 : b ≤ 100) (p n m1 d1 m2 d2 m3 z zz r1 r2 r3 r4 r5 r6 r7 r8 r9 r10 r11 r12 r13 r14 r15 : Nat) (hn : n < 131) (hp : floatToIntVal .f64 p .u64 = some ((n : Nat) : Int)) (hpar : n % 2 = 1) (hoc : (n + 1) % 8 = 4) (e0 : Ieee.double.mul ax 4608412980311869571 = some p) (e1 : Ieee.double.mul (W64 (n + 1)) 4605249456957292544 = some m1) (e2 : Ieee.double.sub ax m1 = some d1) (e3 : Ieee.double.mul (W64 (n + 1)) 4495793288086814720 = some m2) (e4 : Ieee.double.sub d1 m2 = some d2) (e5 : Ieee.double.mul (W64 (n + 1)) 4388835458085048688 = some m3) (e6 : Ieee.double.sub d2 m3 = some z) (e7 : Ieee.double.mul z z = some zz) (e8 : Ieee.double.mul 4602678819172646912 zz = some r1) (e9 : Ieee.double.sub 4607182418800017408 r1 = some r2) (e10 : Ieee.double.mul zz zz = some r3) (e11 : Ieee.double.mul 13666448263388469915 zz = some r4) (e12 : Ieee.double.add r4 4477121864728985349 = some r5) (e13 : Ieee.double.mul r5 zz = some r6) (e14 : Ieee.double.add r6 13732177093698800582 = some r7) (e15 : Ieee.double.mul r7 zz = some r8) (e16 : Ieee.double.add r8 4537941361668146421 = some r9) (e17 : Ieee.double.mul r9 zz = some r10) (e18 : Ieee.double.add r10 13787419979223748497 = some r11) (e19 : Ieee.double.mul r11 zz = some r12) (e20 : Ieee.double.add r12 4586165620538955083 = some r13) (e21 : Ieee.double.mul r3 r13 = some r14) (e22 : Ieee.double.add r2 r14 = some r15) (w : World) (hg : Glob w) :
    Calls Tryf.prog 37 #[.float .f64 x] w fun e w' => e = .returned (.float .f64 (Op.negFloat .f64 r15)) ∧ w' = w := by
  have hlt := fv_lt hx
  have hth := ord_lt hb fv_thr (by have : (100 : Rat) < 536870912 := by decide +kernel
                                   grind)
  have hc0 := runToU64 hp
  have ho1 := and_one n (by omega)
  rw [hpar] at ho1
  have ho2 := and_seven (n + 1) (by omega)
  rw [hoc] at ho2
  have hinc := incr n (by omega)
  have ho3 : ((n + 1 : Nat) : Int) = (n : Int) + 1 := by omega
  rw [ho3] at ho2
  have hw1 : IntKind.u64.wrap ((n : Int) + 1) = (n : Int) + 1 := by rw [IntKind.wrap_u64]; omega
  obtain ⟨c0, c1, c2, c3, c4, c5, s0, s1, s2, s3, s4, s5⟩ := hg
  have f0 := runMul e0
  have f1 := runMul e1
  have f2 := runSub e2
  have f3 := runMul e3
  have f4 := runSub e4
  have f5 := runMul e5
  have f6 := runSub e6
  have f7 := runMul e7
  have f8 := runMul e8
  have f9 := runSub e9
  have f10 := runMul e10
  have f11 := runMul e11
  have f12 := runAdd e12
  have f13 := runMul e13
  have f14 := runAdd e14
  have f15 := runMul e15
  have f16 := runAdd e16
  have f17 := runMul e17
  have f18 := runAdd e18
  have f19 := runMul e19
  have f20 := runAdd e20
  have f21 := runMul e21
  have f22 := runAdd e22
  have finc := runAdd hinc
  clear e0 e1 e2 e3 e4 e5 e6 e7 e8 e9 e10 e11 e12 e13 e14 e15 e16 e17 e18 e19 e20 e21 e22
  have hng := runNeg
  unfold W64 at *
  simp only [ho3] at f1 f3 f5 finc
  go_enter Tryf.func37, Tryf.ntmps37
  go_wp2_with (first | (refine (isNaN_any x a hx _).mono ?_; rintro e w' ⟨rfl, rfl⟩) | (refine (isInf_any x a hx (ha.mono (by decide +kernel)) _).mono ?_; rintro e w' ⟨rfl, rfl⟩) | (refine (abs_any x hlt _).mono ?_; rintro e w' ⟨rfl, rfl⟩; rw [hax]))
  go_ret
  exact ⟨rfl, rfl⟩

set_option maxHeartbeats 2000000 in
theorem cos_walk_6_0 (x : Nat) (a : Rat) (hx : fv x = some a) (ha : Bd a 100) (ax : Nat) (hax : absW x = ax) (b : Rat) (hb : fv ax = some b) (hb1 : b ≤ 100) (p n m1 d1 m2 d2 m3 z zz r1 r2 r3 r4 r5 r6 r7 r8 r9 r10 r11 r12 r13 : Nat) (hn : n < 131) (hp : floatToIntVal .f64 p .u64 = some ((n : Nat) : Int)) (hpar : n % 2 = 0) (hoc : n % 8 = 6) (e0 : Ieee.double.mul ax 4608412980311869571 = some p) (e1 : Ieee.double.mul (W64 n) 4605249456957292544 = some m1) (e2 : Ieee.double.sub ax m1 = some d1) (e3 : Ieee.double.mul (W64 n) 4495793288086814720 = some m2) (e4 : Ieee.double.sub d1 m2 = some d2) (e5 : Ieee.double.mul (W64 n) 4388835458085048688 = some m3) (e6 : Ieee.double.sub d2 m3 = some z) (e7 : Ieee.double.mul z z = some zz) (e8 : Ieee.double.mul z zz = some r1) (e9 : Ieee.double.mul 4460209587652500685 zz = some r2) (e10 : Ieee.double.add r2 13716528389658582877 = some r3) (e11 : Ieee.double.mul r3 zz = some r4) (e12 : Ieee.double.add r4 4523617212962785441 = some r5) (e13 : Ieee.double.mul r5 zz = some r6) (e14 : Ieee.double.add r6 13774824197404483331 = some r7) (e15 : Ieee.double.mul r7 zz = some r8) (e16 : Ieee.double.add r8 4575957461383575504 = some r9) (e17 : Ieee.double.mul r9 zz = some r10) (e18 : Ieee.double.add r10 13818544856648471880 = some r11) (e19 : Ieee.double.mul r1 r11 = some r12) (e20 : Ieee.double.add z r12 = some r13) (w : World) (hg : Glob w) :
    Calls Tryf.prog 37 #[.float .f64 x] w fun e w' => e = .returned (.float .f64 (r13)) ∧ w' = w := by
  have hlt := fv_lt hx
  have hth := ord_lt hb fv_thr (by have : (100 : Rat) < 536870912 := by decide +kernel
                                   grind)
  have hc0 := runToU64 hp
  have ho1 := and_one n (by omega)
  rw [hpar] at ho1
  have ho2 := and_seven n (by omega)
  rw [hoc] at ho2
  obtain ⟨c0, c1, c2, c3, c4, c5, s0, s1, s2, s3, s4, s5⟩ := hg
  have f0 := runMul e0
  have f1 := runMul e1
  have f2 := runSub e2
  have f3 := runMul e3
  have f4 := runSub e4
  have f5 := runMul e5
  have f6 := runSub e6
  have f7 := runMul e7
  have f8 := runMul e8
  have f9 := runMul e9
  have f10 := runAdd e10
  have f11 := runMul e11
  have f12 := runAdd e12
  have f13 := runMul e13
  have f14 := runAdd e14
  have f15 := runMul e15
  have f16 := runAdd e16
  have f17 := runMul e17
  have f18 := runAdd e18
  have f19 := runMul e19
  have f20 := runAdd e20
  clear e0 e1 e2 e3 e4 e5 e6 e7 e8 e9 e10 e11 e12 e13 e14 e15 e16 e17 e18 e19 e20
  unfold W64 at *
  go_enter Tryf.func37, Tryf.ntmps37
  go_wp2_with (first | (refine (isNaN_any x a hx _).mono ?_; rintro e w' ⟨rfl, rfl⟩) | (refine (isInf_any x a hx (ha.mono (by decide +kernel)) _).mono ?_; rintro e w' ⟨rfl, rfl⟩) | (refine (abs_any x hlt _).mono ?_; rintro e w' ⟨rfl, rfl⟩; rw [hax]))
  go_ret
  exact ⟨rfl, rfl⟩

set_option maxHeartbeats 2000000 in
theorem cos_walk_6_1 (x : Nat) (a : Rat) (hx : fv x = some a) (ha : Bd a 100) (ax : Nat) (hax : absW x = ax) (b : Rat) (hb : fv ax = some b) (hb1 : b ≤ 100) (p n m1 d1 m2 d2 m3 z zz r1 r2 r3 r4 r5 r6 r7 r8 r9 r10 r11 r12 r13 : Nat) (hn : n < 131) (hp : floatToIntVal .f64 p .u64 = some ((n : Nat) : Int)) (hpar : n % 2 = 1) (hoc : (n + 1) % 8 = 6) (e0 : Ieee.double.mul ax 4608412980311869571 = some p) (e1 : Ieee.double.mul (W64 (n + 1)) 4605249456957292544 = some m1) (e2 : Ieee.double.sub ax m1 = some d1) (e3 : Ieee.double.mul (W64 (n + 1)) 4495793288086814720 = some m2) (e4 : Ieee.double.sub d1 m2 = some d2) (e5 : Ieee.double.mul (W64 (n + 1)) 4388835458085048688 = some m3) (e6 : Ieee.double.sub d2 m3 = some z) (e7 : Ieee.double.mul z z = some zz) (e8 : Ieee.double.mul z zz = some r1) (e9 : Ieee.double.mul 4460209587652500685 zz = some r2) (e10 : Ieee.double.add r2 13716528389658582877 = some r3) (e11 : Ieee.double.mul r3 zz = some r4) (e12 : Ieee.double.add r4 4523617212962785441 = some r5) (e13 : Ieee.double.mul r5 zz = some r6) (e14 : Ieee.double.add r6 13774824197404483331 = some r7) (e15 : Ieee.double.mul r7 zz = some r8) (e16 : Ieee.double.add r8 4575957461383575504 = some r9) (e17 : Ieee.double.mul r9 zz = some r10) (e18 : Ieee.double.add r10 13818544856648471880 = some r11) (e19 : Ieee.double.mul r1 r11 = some r12) (e20 : Ieee.double.add z r12 = some r13) (w : World) (hg : Glob w) :
    Calls Tryf.prog 37 #[.float .f64 x] w fun e w' => e = .returned (.float .f64 (r13)) ∧ w' = w := by
  have hlt := fv_lt hx
  have hth := ord_lt hb fv_thr (by have : (100 : Rat) < 536870912 := by decide +kernel
                                   grind)
  have hc0 := runToU64 hp
  have ho1 := and_one n (by omega)
  rw [hpar] at ho1
  have ho2 := and_seven (n + 1) (by omega)
  rw [hoc] at ho2
  have hinc := incr n (by omega)
  have ho3 : ((n + 1 : Nat) : Int) = (n : Int) + 1 := by omega
  rw [ho3] at ho2
  have hw1 : IntKind.u64.wrap ((n : Int) + 1) = (n : Int) + 1 := by rw [IntKind.wrap_u64]; omega
  obtain ⟨c0, c1, c2, c3, c4, c5, s0, s1, s2, s3, s4, s5⟩ := hg
  have f0 := runMul e0
  have f1 := runMul e1
  have f2 := runSub e2
  have f3 := runMul e3
  have f4 := runSub e4
  have f5 := runMul e5
  have f6 := runSub e6
  have f7 := runMul e7
  have f8 := runMul e8
  have f9 := runMul e9
  have f10 := runAdd e10
  have f11 := runMul e11
  have f12 := runAdd e12
  have f13 := runMul e13
  have f14 := runAdd e14
  have f15 := runMul e15
  have f16 := runAdd e16
  have f17 := runMul e17
  have f18 := runAdd e18
  have f19 := runMul e19
  have f20 := runAdd e20
  have finc := runAdd hinc
  clear e0 e1 e2 e3 e4 e5 e6 e7 e8 e9 e10 e11 e12 e13 e14 e15 e16 e17 e18 e19 e20
  unfold W64 at *
  simp only [ho3] at f1 f3 f5 finc
  go_enter Tryf.func37, Tryf.ntmps37
  go_wp2_with (first | (refine (isNaN_any x a hx _).mono ?_; rintro e w' ⟨rfl, rfl⟩) | (refine (isInf_any x a hx (ha.mono (by decide +kernel)) _).mono ?_; rintro e w' ⟨rfl, rfl⟩) | (refine (abs_any x hlt _).mono ?_; rintro e w' ⟨rfl, rfl⟩; rw [hax]))
  go_ret
  exact ⟨rfl, rfl⟩

end Go.Proofs.Qxb6609382aFmt.W