import Derived.Test.Qxb6609382aFmtC
namespace Go.Proofs.Qxb6609382aFmt.W
open Go.RowKit Go.Proofs.Qxb6609382aFmt.Fl

theorem fv_zero : fv 0 = some 0 := by decide +kernel

set_option maxHeartbeats 2000000 in
theorem sincos_walk_0_0 (x : Nat) (a : Rat) (hx : fv x = some a) (ha : Bd a 100) (hs : 0 < a) (ax : Nat) (hax : x = ax) (b : Rat) (hb : fv ax = some b) (hb1 : b ≤ 100) (p n m1 d1 m2 d2 m3 z zz r1 r2 r3 r4 r5 r6 r7 r8 r9 r10 r11 r12 r13 r14 r15 q1 q2 q3 q4 q5 q6 q7 q8 q9 q10 q11 q12 q13 : Nat) (hn : n < 131) (hp : floatToIntVal .f64 p .u64 = some ((n : Nat) : Int)) (hpar : n % 2 = 0) (hoc : n % 8 = 0) (e0 : Ieee.double.mul ax 4608412980311869571 = some p) (e1 : Ieee.double.mul (W64 n) 4605249456957292544 = some m1) (e2 : Ieee.double.sub ax m1 = some d1) (e3 : Ieee.double.mul (W64 n) 4495793288086814720 = some m2) (e4 : Ieee.double.sub d1 m2 = some d2) (e5 : Ieee.double.mul (W64 n) 4388835458085048688 = some m3) (e6 : Ieee.double.sub d2 m3 = some z) (e7 : Ieee.double.mul z z = some zz) (e8 : Ieee.double.mul 4602678819172646912 zz = some r1) (e9 : Ieee.double.sub 4607182418800017408 r1 = some r2) (e10 : Ieee.double.mul zz zz = some r3) (e11 : Ieee.double.mul 13666448263388469915 zz = some r4) (e12 : Ieee.double.add r4 4477121864728985349 = some r5) (e13 : Ieee.double.mul r5 zz = some r6) (e14 : Ieee.double.add r6 13732177093698800582 = some r7) (e15 : Ieee.double.mul r7 zz = some r8) (e16 : Ieee.double.add r8 4537941361668146421 = some r9) (e17 : Ieee.double.mul r9 zz = some r10) (e18 : Ieee.double.add r10 13787419979223748497 = some r11) (e19 : Ieee.double.mul r11 zz = some r12) (e20 : Ieee.double.add r12 4586165620538955083 = some r13) (e21 : Ieee.double.mul r3 r13 = some r14) (e22 : Ieee.double.add r2 r14 = some r15) (e23 : Ieee.double.mul z zz = some q1) (e24 : Ieee.double.mul 4460209587652500685 zz = some q2) (e25 : Ieee.double.add q2 13716528389658582877 = some q3) (e26 : Ieee.double.mul q3 zz = some q4) (e27 : Ieee.double.add q4 4523617212962785441 = some q5) (e28 : Ieee.double.mul q5 zz = some q6) (e29 : Ieee.double.add q6 13774824197404483331 = some q7) (e30 : Ieee.double.mul q7 zz = some q8) (e31 : Ieee.double.add q8 4575957461383575504 = some q9) (e32 : Ieee.double.mul q9 zz = some q10) (e33 : Ieee.double.add q10 13818544856648471880 = some q11) (e34 : Ieee.double.mul q1 q11 = some q12) (e35 : Ieee.double.add z q12 = some q13) (w : World) (hg : Glob w) :
    Calls Tryf.prog 35 #[.float .f64 x] w fun e w' => e = .returned (.tuple #[.float .f64 (q13), .float .f64 (r15)]) ∧ w' = w := by
  have hlt := fv_lt hx
  have hth := ord_lt hb fv_thr (by have : (100 : Rat) < 536870912 := by decide +kernel
                                   grind)
  have hzr := ord_gt hx fv_zero hs
  have hc0 := runToU64 hp
  have ho1 := and_one n (by omega)
  rw [hpar] at ho1
  have ho2 := and_seven n (by omega)
  rw [hoc] at ho2
  obtain ⟨c0, c1, c2, c3, c4, c5, s0, s1, s2, s3, s4, s5⟩ := hg
  have f0 := runMul e0
  have f1 := runMul e1
  have f2 := runSub e2
  have f3 := runMul e3
  have f4 := runSub e4
  have f5 := runMul e5
  have f6 := runSub e6
  have f7 := runMul e7
  have f8 := runMul e8
  have f9 := runSub e9
  have f10 := runMul e10
  have f11 := runMul e11
  have f12 := runAdd e12
  have f13 := runMul e13
  have f14 := runAdd e14
  have f15 := runMul e15
  have f16 := runAdd e16
  have f17 := runMul e17
  have f18 := runAdd e18
  have f19 := runMul e19
  have f20 := runAdd e20
  have f21 := runMul e21
  have f22 := runAdd e22
  have f23 := runMul e23
  have f24 := runMul e24
  have f25 := runAdd e25
  have f26 := runMul e26
  have f27 := runAdd e27
  have f28 := runMul e28
  have f29 := runAdd e29
  have f30 := runMul e30
  have f31 := runAdd e31
  have f32 := runMul e32
  have f33 := runAdd e33
  have f34 := runMul e34
  have f35 := runAdd e35
  clear e0 e1 e2 e3 e4 e5 e6 e7 e8 e9 e10 e11 e12 e13 e14 e15 e16 e17 e18 e19 e20 e21 e22 e23 e24 e25 e26 e27 e28 e29 e30 e31 e32 e33 e34 e35
  have hng := runNeg
  unfold W64 at *
  subst hax
  go_enter Tryf.func35, Tryf.ntmps35
  go_wp2_with (first | (refine (isNaN_any x a hx _).mono ?_; rintro e w' ⟨rfl, rfl⟩) | (refine (isInf_any x a hx (ha.mono (by decide +kernel)) _).mono ?_; rintro e w' ⟨rfl, rfl⟩))
  go_ret2
  exact ⟨rfl, rfl⟩

set_option maxHeartbeats 2000000 in
theorem sincos_walk_0_1 (x : Nat) (a : Rat) (hx : fv x = some a) (ha : Bd a 100) (hs : 0 < a) (ax : Nat) (hax : x = ax) (b : Rat) (hb : fv ax = some b) (hb1 : b ≤ 100) (p n m1 d1 m2 d2 m3 z zz r1 r2 r3 r4 r5 r6 r7 r8 r9 r10 r11 r12 r13 r14 r15 q1 q2 q3 q4 q5 q6 q7 q8 q9 q10 q11 q12 q13 : Nat) (hn : n < 131) (hp : floatToIntVal .f64 p .u64 = some ((n : Nat) : Int)) (hpar : n % 2 = 1) (hoc : (n + 1) % 8 = 2) (e0 : Ieee.double.mul ax 4608412980311869571 = some p) (e1 : Ieee.double.mul (W64 (n + 1)) 4605249456957292544 = some m1) (e2 : Ieee.double.sub ax m1 = some d1) (e3 : Ieee.double.mul (W64 (n + 1)) 4495793288086814720 = some m2) (e4 : Ieee.double.sub d1 m2 = some d2) (e5 : Ieee.double.mul (W64 (n + 1)) 4388835458085048688 = some m3) (e6 : Ieee.double.sub d2 m3 = some z) (e7 : Ieee.double.mul z z = some zz) (e8 : Ieee.double.mul 4602678819172646912 zz = some r1) (e9 : Ieee.double.sub 4607182418800017408 r1 = some r2) (e10 : Ieee.double.mul zz zz = some r3) (e11 : Ieee.double.mul 13666448263388469915 zz = some r4) (e12 : Ieee.double.add r4 4477121864728985349 = some r5) (e13 : Ieee.double.mul r5 zz = some r6) (e14 : Ieee.double.add r6 13732177093698800582 = some r7) (e15 : Ieee.double.mul r7 zz = some r8) (e16 : Ieee.double.add r8 4537941361668146421 = some r9) (e17 : Ieee.double.mul r9 zz = some r10) (e18 : Ieee.double.add r10 13787419979223748497 = some r11) (e19 : Ieee.double.mul r11 zz = some r12) (e20 : Ieee.double.add r12 4586165620538955083 = some r13) (e21 : Ieee.double.mul r3 r13 = some r14) (e22 : Ieee.double.add r2 r14 = some r15) (e23 : Ieee.double.mul z zz = some q1) (e24 : Ieee.double.mul 4460209587652500685 zz = some q2) (e25 : Ieee.double.add q2 13716528389658582877 = some q3) (e26 : Ieee.double.mul q3 zz = some q4) (e27 : Ieee.double.add q4 4523617212962785441 = some q5) (e28 : Ieee.double.mul q5 zz = some q6) (e29 : Ieee.double.add q6 13774824197404483331 = some q7) (e30 : Ieee.double.mul q7 zz = some q8) (e31 : Ieee.double.add q8 4575957461383575504 = some q9) (e32 : Ieee.double.mul q9 zz = some q10) (e33 : Ieee.double.add q10 13818544856648471880 = some q11) (e34 : Ieee.double.mul q1 q11 = some q12) (e35 : Ieee.double.add z q12 = some q13) (w : World) (hg : Glob w) :
    Calls Tryf.prog 35 #[.float .f64 x] w fun e w' => e = .returned (.tuple #[.float .f64 (r15), .float .f64 (Op.negFloat .f64 q13)]) ∧ w' = w := by
  have hlt := fv_lt hx
  have hth := ord_lt hb fv_thr (by have : (100 : Rat) < 536870912 := by decide +kernel
                                   grind)
  have hzr := ord_gt hx fv_zero hs
  have hc0 := runToU64 hp
  have ho1 := and_one n (by omega)
  rw [hpar] at ho1
  have ho2 := and_seven (n + 1) (by omega)
  rw [hoc] at ho2
  have hinc := incr n (by omega)
  have ho3 : ((n + 1 : Nat) : Int) = (n : Int) + 1 := by omega
  rw [ho3] at ho2
  have hw1 : IntKind.u64.wrap ((n : Int) + 1) = (n : Int) + 1 := by rw [IntKind.wrap_u64]; omega
  have finc := runAdd hinc
  obtain ⟨c0, c1, c2, c3, c4, c5, s0, s1, s2, s3, s4, s5⟩ := hg
  have f0 := runMul e0
  have f1 := runMul e1
  have f2 := runSub e2
  have f3 := runMul e3
  have f4 := runSub e4
  have f5 := runMul e5
  have f6 := runSub e6
  have f7 := runMul e7
  have f8 := runMul e8
  have f9 := runSub e9
  have f10 := runMul e10
  have f11 := runMul e11
  have f12 := runAdd e12
  have f13 := runMul e13
  have f14 := runAdd e14
  have f15 := runMul e15
  have f16 := runAdd e16
  have f17 := runMul e17
  have f18 := runAdd e18
  have f19 := runMul e19
  have f20 := runAdd e20
  have f21 := runMul e21
  have f22 := runAdd e22
  have f23 := runMul e23
  have f24 := runMul e24
  have f25 := runAdd e25
  have f26 := runMul e26
  have f27 := runAdd e27
  have f28 := runMul e28
  have f29 := runAdd e29
  have f30 := runMul e30
  have f31 := runAdd e31
  have f32 := runMul e32
  have f33 := runAdd e33
  have f34 := runMul e34
  have f35 := runAdd e35
  clear e0 e1 e2 e3 e4 e5 e6 e7 e8 e9 e10 e11 e12 e13 e14 e15 e16 e17 e18 e19 e20 e21 e22 e23 e24 e25 e26 e27 e28 e29 e30 e31 e32 e33 e34 e35
  have hng := runNeg
  unfold W64 at *
  simp only [ho3] at f1 f3 f5 finc
  subst hax
  go_enter Tryf.func35, Tryf.ntmps35
  go_wp2_with (first | (refine (isNaN_any x a hx _).mono ?_; rintro e w' ⟨rfl, rfl⟩) | (refine (isInf_any x a hx (ha.mono (by decide +kernel)) _).mono ?_; rintro e w' ⟨rfl, rfl⟩))
  go_ret2
  exact ⟨rfl, rfl⟩

set_option maxHeartbeats 2000000 in
theorem sincos_walk_1_0 (x : Nat) (a : Rat) (hx : fv x = some a) (ha : Bd a 100) (hs : a < 0) (ax : Nat) (hax : Op.negFloat .f64 x = ax) (b : Rat) (hb : fv ax = some b) (hb1 : b ≤ 100) (p n m1 d1 m2 d2 m3 z zz r1 r2 r3 r4 r5 r6 r7 r8 r9 r10 r11 r12 r13 r14 r15 q1 q2 q3 q4 q5 q6 q7 q8 q9 q10 q11 q12 q13 : Nat) (hn : n < 131) (hp : floatToIntVal .f64 p .u64 = some ((n : Nat) : Int)) (hpar : n % 2 = 0) (hoc : n % 8 = 0) (e0 : Ieee.double.mul ax 4608412980311869571 = some p) (e1 : Ieee.double.mul (W64 n) 4605249456957292544 = some m1) (e2 : Ieee.double.sub ax m1 = some d1) (e3 : Ieee.double.mul (W64 n) 4495793288086814720 = some m2) (e4 : Ieee.double.sub d1 m2 = some d2) (e5 : Ieee.double.mul (W64 n) 4388835458085048688 = some m3) (e6 : Ieee.double.sub d2 m3 = some z) (e7 : Ieee.double.mul z z = some zz) (e8 : Ieee.double.mul 4602678819172646912 zz = some r1) (e9 : Ieee.double.sub 4607182418800017408 r1 = some r2) (e10 : Ieee.double.mul zz zz = some r3) (e11 : Ieee.double.mul 13666448263388469915 zz = some r4) (e12 : Ieee.double.add r4 4477121864728985349 = some r5) (e13 : Ieee.double.mul r5 zz = some r6) (e14 : Ieee.double.add r6 13732177093698800582 = some r7) (e15 : Ieee.double.mul r7 zz = some r8) (e16 : Ieee.double.add r8 4537941361668146421 = some r9) (e17 : Ieee.double.mul r9 zz = some r10) (e18 : Ieee.double.add r10 13787419979223748497 = some r11) (e19 : Ieee.double.mul r11 zz = some r12) (e20 : Ieee.double.add r12 4586165620538955083 = some r13) (e21 : Ieee.double.mul r3 r13 = some r14) (e22 : Ieee.double.add r2 r14 = some r15) (e23 : Ieee.double.mul z zz = some q1) (e24 : Ieee.double.mul 4460209587652500685 zz = some q2) (e25 : Ieee.double.add q2 13716528389658582877 = some q3) (e26 : Ieee.double.mul q3 zz = some q4) (e27 : Ieee.double.add q4 4523617212962785441 = some q5) (e28 : Ieee.double.mul q5 zz = some q6) (e29 : Ieee.double.add q6 13774824197404483331 = some q7) (e30 : Ieee.double.mul q7 zz = some q8) (e31 : Ieee.double.add q8 4575957461383575504 = some q9) (e32 : Ieee.double.mul q9 zz = some q10) (e33 : Ieee.double.add q10 13818544856648471880 = some q11) (e34 : Ieee.double.mul q1 q11 = some q12) (e35 : Ieee.double.add z q12 = some q13) (w : World) (hg : Glob w) :
    Calls Tryf.prog 35 #[.float .f64 x] w fun e w' => e = .returned (.tuple #[.float .f64 (Op.negFloat .f64 q13), .float .f64 (r15)]) ∧ w' = w := by
  have hlt := fv_lt hx
  have hth := ord_lt hb fv_thr (by have : (100 : Rat) < 536870912 := by decide +kernel
                                   grind)
  have hzr := ord_lt hx fv_zero hs
  have hc0 := runToU64 hp
  have ho1 := and_one n (by omega)
  rw [hpar] at ho1
  have ho2 := and_seven n (by omega)
  rw [hoc] at ho2
  obtain ⟨c0, c1, c2, c3, c4, c5, s0, s1, s2, s3, s4, s5⟩ := hg
  have f0 := runMul e0
  have f1 := runMul e1
  have f2 := runSub e2
  have f3 := runMul e3
  have f4 := runSub e4
  have f5 := runMul e5
  have f6 := runSub e6
  have f7 := runMul e7
  have f8 := runMul e8
  have f9 := runSub e9
  have f10 := runMul e10
  have f11 := runMul e11
  have f12 := runAdd e12
  have f13 := runMul e13
  have f14 := runAdd e14
  have f15 := runMul e15
  have f16 := runAdd e16
  have f17 := runMul e17
  have f18 := runAdd e18
  have f19 := runMul e19
  have f20 := runAdd e20
  have f21 := runMul e21
  have f22 := runAdd e22
  have f23 := runMul e23
  have f24 := runMul e24
  have f25 := runAdd e25
  have f26 := runMul e26
  have f27 := runAdd e27
  have f28 := runMul e28
  have f29 := runAdd e29
  have f30 := runMul e30
  have f31 := runAdd e31
  have f32 := runMul e32
  have f33 := runAdd e33
  have f34 := runMul e34
  have f35 := runAdd e35
  clear e0 e1 e2 e3 e4 e5 e6 e7 e8 e9 e10 e11 e12 e13 e14 e15 e16 e17 e18 e19 e20 e21 e22 e23 e24 e25 e26 e27 e28 e29 e30 e31 e32 e33 e34 e35
  have hng := runNeg
  unfold W64 at *
  go_enter Tryf.func35, Tryf.ntmps35
  go_wp2_with (first | (refine (isNaN_any x a hx _).mono ?_; rintro e w' ⟨rfl, rfl⟩) | (refine (isInf_any x a hx (ha.mono (by decide +kernel)) _).mono ?_; rintro e w' ⟨rfl, rfl⟩))
  go_ret2
  exact ⟨rfl, rfl⟩

set_option maxHeartbeats 2000000 in
theorem sincos_walk_1_1 (x : Nat) (a : Rat) (hx : fv x = some a) (ha : Bd a 100) (hs : a < 0) (ax : Nat) (hax : Op.negFloat .f64 x = ax) (b : Rat) (hb : fv ax = some b) (hb1 : b ≤ 100) (p n m1 d1 m2 d2 m3 z zz r1 r2 r3 r4 r5 r6 r7 r8 r9 r10 r11 r12 r13 r14 r15 q1 q2 q3 q4 q5 q6 q7 q8 q9 q10 q11 q12 q13 : Nat) (hn : n < 131) (hp : floatToIntVal .f64 p .u64 = some ((n : Nat) : Int)) (hpar : n % 2 = 1) (hoc : (n + 1) % 8 = 2) (e0 : Ieee.double.mul ax 4608412980311869571 = some p) (e1 : Ieee.double.mul (W64 (n + 1)) 4605249456957292544 = some m1) (e2 : Ieee.double.sub ax m1 = some d1) (e3 : Ieee.double.mul (W64 (n + 1)) 4495793288086814720 = some m2) (e4 : Ieee.double.sub d1 m2 = some d2) (e5 : Ieee.double.mul (W64 (n + 1)) 4388835458085048688 = some m3) (e6 : Ieee.double.sub d2 m3 = some z) (e7 : Ieee.double.mul z z = some zz) (e8 : Ieee.double.mul 4602678819172646912 zz = some r1) (e9 : Ieee.double.sub 4607182418800017408 r1 = some r2) (e10 : Ieee.double.mul zz zz = some r3) (e11 : Ieee.double.mul 13666448263388469915 zz = some r4) (e12 : Ieee.double.add r4 4477121864728985349 = some r5) (e13 : Ieee.double.mul r5 zz = some r6) (e14 : Ieee.double.add r6 13732177093698800582 = some r7) (e15 : Ieee.double.mul r7 zz = some r8) (e16 : Ieee.double.add r8 4537941361668146421 = some r9) (e17 : Ieee.double.mul r9 zz = some r10) (e18 : Ieee.double.add r10 13787419979223748497 = some r11) (e19 : Ieee.double.mul r11 zz = some r12) (e20 : Ieee.double.add r12 4586165620538955083 = some r13) (e21 : Ieee.double.mul r3 r13 = some r14) (e22 : Ieee.double.add r2 r14 = some r15) (e23 : Ieee.double.mul z zz = some q1) (e24 : Ieee.double.mul 4460209587652500685 zz = some q2) (e25 : Ieee.double.add q2 13716528389658582877 = some q3) (e26 : Ieee.double.mul q3 zz = some q4) (e27 : Ieee.double.add q4 4523617212962785441 = some q5) (e28 : Ieee.double.mul q5 zz = some q6) (e29 : Ieee.double.add q6 13774824197404483331 = some q7) (e30 : Ieee.double.mul q7 zz = some q8) (e31 : Ieee.double.add q8 4575957461383575504 = some q9) (e32 : Ieee.double.mul q9 zz = some q10) (e33 : Ieee.double.add q10 13818544856648471880 = some q11) (e34 : Ieee.double.mul q1 q11 = some q12) (e35 : Ieee.double.add z q12 = some q13) (w : World) (hg : Glob w) :
    Calls Tryf.prog 35 #[.float .f64 x] w fun e w' => e = .returned (.tuple #[.float .f64 (Op.negFloat .f64 r15), .float .f64 (Op.negFloat .f64 q13)]) ∧ w' = w := by
  have hlt := fv_lt hx
  have hth := ord_lt hb fv_thr (by have : (100 : Rat) < 536870912 := by decide +kernel
                                   grind)
  have hzr := ord_lt hx fv_zero hs
  have hc0 := runToU64 hp
  have ho1 := and_one n (by omega)
  rw [hpar] at ho1
  have ho2 := and_seven (n + 1) (by omega)
  rw [hoc] at ho2
  have hinc := incr n (by omega)
  have ho3 : ((n + 1 : Nat) : Int) = (n : Int) + 1 := by omega
  rw [ho3] at ho2
  have hw1 : IntKind.u64.wrap ((n : Int) + 1) = (n : Int) + 1 := by rw [IntKind.wrap_u64]; omega
  have finc := runAdd hinc
  obtain ⟨c0, c1, c2, c3, c4, c5, s0, s1, s2, s3, s4, s5⟩ := hg
  have f0 := runMul e0
  have f1 := runMul e1
  have f2 := runSub e2
  have f3 := runMul e3
  have f4 := runSub e4
  have f5 := runMul e5
  have f6 := runSub e6
  have f7 := runMul e7
  have f8 := runMul e8
  have f9 := runSub e9
  have f10 := runMul e10
  have f11 := runMul e11
  have f12 := runAdd e12
  have f13 := runMul e13
  have f14 := runAdd e14
  have f15 := runMul e15
  have f16 := runAdd e16
  have f17 := runMul e17
  have f18 := runAdd e18
  have f19 := runMul e19
  have f20 := runAdd e20
  have f21 := runMul e21
  have f22 := runAdd e22
  have f23 := runMul e23
  have f24 := runMul e24
  have f25 := runAdd e25
  have f26 := runMul e26
  have f27 := runAdd e27
  have f28 := runMul e28
  have f29 := runAdd e29
  have f30 := runMul e30
  have f31 := runAdd e31
  have f32 := runMul e32
  have f33 := runAdd e33
  have f34 := runMul e34
  have f35 := runAdd e35
  clear e0 e1 e2 e3 e4 e5 e6 e7 e8 e9 e10 e11 e12 e13 e14 e15 e16 e17 e18 e19 e20 e21 e22 e23 e24 e25 e26 e27 e28 e29 e30 e31 e32 e33 e34 e35
  have hng := runNeg
  unfold W64 at *
  simp only [ho3] at f1 f3 f5 finc
  go_enter Tryf.func35, Tryf.ntmps35
  go_wp2_with (first | (refine (isNaN_any x a hx _).mono ?_; rintro e w' ⟨rfl, rfl⟩) | (refine (isInf_any x a hx (ha.mono (by decide +kernel)) _).mono ?_; rintro e w' ⟨rfl, rfl⟩))
  go_ret2
  exact ⟨rfl, rfl⟩


set_option maxHeartbeats 1000000 in
theorem sincos_walk_z (x : Nat) (hx : fv x = some 0) (w : World) :
    Calls Tryf.prog 35 #[.float .f64 x] w fun e w' => e = .returned (.tuple #[.float .f64 x, .float .f64 4607182418800017408]) ∧ w' = w := by
  have hzr := ord_eq hx fv_zero rfl
  go_enter Tryf.func35, Tryf.ntmps35
  go_wp2
  go_ret2
  exact ⟨rfl, rfl⟩

/-- math.Sincos at a number within 3/2: the sine is bounded, the cosine a cosine; both hang on the number alone. -/
theorem sincos_any (x : Nat) (a : Rat) (hx : fv x = some a) (ha : Bd a (3 / 2)) :
    ∃ s c v, Fx s v 2 (1 / 100000000000000) ∧ IsCos a c ∧ ∀ w, Glob w → Calls Tryf.prog 35 #[.float .f64 x] w fun e w' => e = .returned (.tuple #[.float .f64 s, .float .f64 c]) ∧ w' = w := by
  have q1 := Q4_lo; have q2 := Q4_hi
  have ha1 := ha.1; have ha2 := ha.2
  have ha100 : Bd a 100 := ha.mono (by decide +kernel)
  by_cases h0 : a = 0
  · subst h0
    refine ⟨x, 4607182418800017408, 0, (Fx.lit hx (A := 2) (by constructor <;> decide +kernel)).mono (by decide +kernel) (by decide +kernel), ⟨cosP 0, ?_, ?_⟩, fun w _ => sincos_walk_z x hx w⟩
    · rw [cosP_zero]
      exact (Fx.lit fv_one (A := 2) (by constructor <;> decide +kernel)).mono (by decide +kernel) (by decide +kernel)
    · have h := oct_G (a := 0) (b := 0) (ζ := 0) (j := 0) (Or.inl rfl) rfl (by decide +kernel) (by constructor <;> grind)
      exact h
  have hab : ∃ ax b, fv ax = some b ∧ 0 ≤ b ∧ b ≤ 3 / 2 ∧ (b = a ∨ b = -a) ∧ ((0 < a ∧ x = ax) ∨ (a < 0 ∧ Op.negFloat .f64 x = ax)) := by
    rcases Rat.le_total (a := 0) (b := a) with h | h
    · exact ⟨x, a, hx, h, ha1, Or.inl rfl, Or.inl ⟨by grind, rfl⟩⟩
    · exact ⟨_, -a, neg_val hx, by grind, ha2, Or.inr rfl, Or.inr ⟨by grind, rfl⟩⟩
  obtain ⟨ax, b, hb, hb0, hb32, hab, hsx⟩ := hab
  have hb1 : b ≤ 100 := by grind
  obtain ⟨p, n, hp, hn, hn9, hnQ, hred⟩ := reduce hb hb0 hb1
  have hn1 : n < 2 := by
    have h2 : (n : Rat) * Q4 < 2 * Q4 := by grind
    have h3 := Rat.lt_of_mul_lt_mul_right h2 (by grind)
    have h4 : (n : Rat) < ((2 : Nat) : Rat) := by
      have e4 : ((2 : Nat) : Rat) = 2 := by decide +kernel
      rw [e4]; exact h3
    exact Rat.natCast_lt_natCast.1 h4
  obtain ⟨m1, d1, m2, d2, m3, z, e1, e2, e3, e4, e5, e6, fz, bz⟩ := hred (n + n % 2) rfl
  replace fz := fz.mono (B := 393 / 500) (by decide +kernel) (Rat.le_refl)
  obtain ⟨zz, e7, fzz⟩ := zz_word fz
  have hG := oct_G (ζ := b - ((n + n % 2 : Nat) : Rat) * Q4) hab (by omega) rfl bz
  obtain ⟨r1, r2, r3, r4, r5, r6, r7, r8, r9, r10, r11, r12, r13, r14, r15, g1, g2, g3, g4, g5, g6, g7, g8, g9, g10, g11, g12, g13, g14, g15, fr⟩ := cos_chain fzz
  obtain ⟨q1, q2, q3, q4, q5, q6, q7, q8, q9, q10, q11, q12, q13, k1, k2, k3, k4, k5, k6, k7, k8, k9, k10, k11, k12, k13, fs⟩ := sin_chain fz fzz
  have hpc : n = 0 ∨ n = 1 := by omega
  rcases hpc with hq | hq
  · have hm : n % 2 = 0 := by omega
    have ho : (n + n % 2) % 8 = 0 := by omega
    have hv : Fx r15 (octV (n + n % 2) (b - ((n + n % 2 : Nat) : Rat) * Q4)) 2 (1 / 100000000000000) := by
      unfold octV
      simp only [ho]
      exact fr
    rw [hm] at ho e1 e3 e5
    rw [Nat.add_zero] at ho e1 e3 e5
    rcases hsx with ⟨hs, hax⟩ | ⟨hs, hax⟩
    · exact ⟨q13, r15, _, fs, ⟨_, hv, hG⟩, fun w hg => sincos_walk_0_0 x a hx ha100 hs ax hax b hb hb1 p n m1 d1 m2 d2 m3 z zz _ _ _ _ _ _ _ _ _ _ _ _ _ _ _ _ _ _ _ _ _ _ _ _ _ _ _ _ (by omega) hn hm ho hp e1 e2 e3 e4 e5 e6 e7 g1 g2 g3 g4 g5 g6 g7 g8 g9 g10 g11 g12 g13 g14 g15 k1 k2 k3 k4 k5 k6 k7 k8 k9 k10 k11 k12 k13 w hg⟩
    · exact ⟨(Op.negFloat .f64 q13), r15, _, fs.neg, ⟨_, hv, hG⟩, fun w hg => sincos_walk_1_0 x a hx ha100 hs ax hax b hb hb1 p n m1 d1 m2 d2 m3 z zz _ _ _ _ _ _ _ _ _ _ _ _ _ _ _ _ _ _ _ _ _ _ _ _ _ _ _ _ (by omega) hn hm ho hp e1 e2 e3 e4 e5 e6 e7 g1 g2 g3 g4 g5 g6 g7 g8 g9 g10 g11 g12 g13 g14 g15 k1 k2 k3 k4 k5 k6 k7 k8 k9 k10 k11 k12 k13 w hg⟩
  · have hm : n % 2 = 1 := by omega
    have ho : (n + n % 2) % 8 = 2 := by omega
    have hv : Fx (Op.negFloat .f64 q13) (octV (n + n % 2) (b - ((n + n % 2 : Nat) : Rat) * Q4)) 2 (1 / 100000000000000) := by
      unfold octV
      simp only [ho]
      exact fs.neg
    rw [hm] at ho e1 e3 e5
    rcases hsx with ⟨hs, hax⟩ | ⟨hs, hax⟩
    · exact ⟨r15, (Op.negFloat .f64 q13), _, fr, ⟨_, hv, hG⟩, fun w hg => sincos_walk_0_1 x a hx ha100 hs ax hax b hb hb1 p n m1 d1 m2 d2 m3 z zz _ _ _ _ _ _ _ _ _ _ _ _ _ _ _ _ _ _ _ _ _ _ _ _ _ _ _ _ (by omega) hn hm ho hp e1 e2 e3 e4 e5 e6 e7 g1 g2 g3 g4 g5 g6 g7 g8 g9 g10 g11 g12 g13 g14 g15 k1 k2 k3 k4 k5 k6 k7 k8 k9 k10 k11 k12 k13 w hg⟩
    · exact ⟨(Op.negFloat .f64 r15), (Op.negFloat .f64 q13), _, fr.neg, ⟨_, hv, hG⟩, fun w hg => sincos_walk_1_1 x a hx ha100 hs ax hax b hb hb1 p n m1 d1 m2 d2 m3 z zz _ _ _ _ _ _ _ _ _ _ _ _ _ _ _ _ _ _ _ _ _ _ _ _ _ _ _ _ (by omega) hn hm ho hp e1 e2 e3 e4 e5 e6 e7 g1 g2 g3 g4 g5 g6 g7 g8 g9 g10 g11 g12 g13 g14 g15 k1 k2 k3 k4 k5 k6 k7 k8 k9 k10 k11 k12 k13 w hg⟩
end Go.Proofs.Qxb6609382aFmt.W