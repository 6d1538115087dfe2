import Derived.Test.Qxb6609382aFmtFd
/-! Go's cosine, word by word: the reduction and the two polynomials, with their errors. -/
namespace Go.Proofs.Qxb6609382aFmt.Fl

theorem fv_half : fv 4602678819172646912 = some (1 / 2) := by decide +kernel
theorem fv_one : fv 4607182418800017408 = some 1 := by decide +kernel

theorem zz_word {z : Nat} {ζ : Rat} (hz : Fx z ζ (393 / 500) (1 / 1000000000000000)) :
    ∃ zz, Ieee.double.mul z z = some zz ∧ Fx zz (ζ * ζ) (154449 / 250000) (1683022303 / 1000000000000000000000000) := by
  obtain ⟨zz, hzz, nzz⟩ := Fx.mul (0) (154449 / 250000) (1683022303 / 1000000000000000000000000) hz hz (by decide +kernel)
  exact ⟨zz, hzz, nzz⟩
theorem cos_chain {zz : Nat} {ζ : Rat} (hzz : Fx zz (ζ * ζ) (154449 / 250000) (1683022303 / 1000000000000000000000000)) :
    ∃ r1 r2 r3 r4 r5 r6 r7 r8 r9 r10 r11 r12 r13 r14 r15, Ieee.double.mul 4602678819172646912 zz = some r1 ∧ Ieee.double.sub 4607182418800017408 r1 = some r2 ∧ Ieee.double.mul zz zz = some r3 ∧ Ieee.double.mul 13666448263388469915 zz = some r4 ∧ Ieee.double.add r4 4477121864728985349 = some r5 ∧ Ieee.double.mul r5 zz = some r6 ∧ Ieee.double.add r6 13732177093698800582 = some r7 ∧ Ieee.double.mul r7 zz = some r8 ∧ Ieee.double.add r8 4537941361668146421 = some r9 ∧ Ieee.double.mul r9 zz = some r10 ∧ Ieee.double.add r10 13787419979223748497 = some r11 ∧ Ieee.double.mul r11 zz = some r12 ∧ Ieee.double.add r12 4586165620538955083 = some r13 ∧ Ieee.double.mul r3 r13 = some r14 ∧ Ieee.double.add r2 r14 = some r15 ∧ Fx r15 (cosP ζ) (2) (1 / 100000000000000) := by
  have ch : Fx 4602678819172646912 (1 / 2) (1 / 2) 0 := Fx.lit fv_half (by constructor <;> decide +kernel)
  have co : Fx 4607182418800017408 1 (1) 0 := Fx.lit fv_one (by constructor <;> decide +kernel)
  have cC0 : Fx 13666448263388469915 C0 (1135853653 / 100000000000000000000) 0 := Fx.lit fv_C0 (by constructor <;> decide +kernel)
  have cC1 : Fx 4477121864728985349 C1 (10437850421 / 5000000000000000000) 0 := Fx.lit fv_C1 (by constructor <;> decide +kernel)
  have cC2 : Fx 13732177093698800582 C2 (27557314179297 / 100000000000000000000) 0 := Fx.lit fv_C2 (by constructor <;> decide +kernel)
  have cC3 : Fx 4537941361668146421 C3 (2480158728885171 / 100000000000000000000) 0 := Fx.lit fv_C3 (by constructor <;> decide +kernel)
  have cC4 : Fx 13787419979223748497 C4 (69444444444365279 / 50000000000000000000) 0 := Fx.lit fv_C4 (by constructor <;> decide +kernel)
  have cC5 : Fx 4586165620538955083 C5 (4166666666666659497 / 100000000000000000000) 0 := Fx.lit fv_C5 (by constructor <;> decide +kernel)
  obtain ⟨r1, hr1, nr1⟩ := Fx.mul (-1) (154449 / 500000) (897022303 / 1000000000000000000000000) ch hzz (by decide +kernel)
  obtain ⟨r2, hr2, nr2⟩ := Fx.sub (1) (654449 / 500000) (279766727 / 250000000000000000000000) co nr1 (by decide +kernel)
  obtain ⟨r3, hr3, nr3⟩ := Fx.mul (-1) (23854493601 / 62500000000) (427008009 / 200000000000000000000000) hzz hzz (by decide +kernel)
  obtain ⟨r4, hr4, nr4⟩ := Fx.mul (-37) (1 / 125000000000) (1 / 1000000000000000000000000) cC0 hzz (by decide +kernel)
  obtain ⟨r5, hr5, nr5⟩ := Fx.add (-28) (131 / 62500000000) (1 / 500000000000000000000000) nr4 cC1 (by decide +kernel)
  obtain ⟨r6, hr6, nr6⟩ := Fx.mul (-29) (259 / 200000000000) (1 / 200000000000000000000000) nr5 hzz (by decide +kernel)
  obtain ⟨r7, hr7, nr7⟩ := Fx.add (-21) (276869 / 1000000000000) (29 / 500000000000000000000000) nr6 cC2 (by decide +kernel)
  obtain ⟨r8, hr8, nr8⟩ := Fx.mul (-22) (171049 / 1000000000000) (529 / 1000000000000000000000000) nr7 hzz (by decide +kernel)
  obtain ⟨r9, hr9, nr9⟩ := Fx.add (-15) (24972637 / 1000000000000) (1959 / 500000000000000000000000) nr8 cC3 (by decide +kernel)
  obtain ⟨r10, hr10, nr10⟩ := Fx.mul (-15) (3856999 / 250000000000) (47839 / 1000000000000000000000000) nr9 hzz (by decide +kernel)
  obtain ⟨r11, hr11, nr11⟩ := Fx.add (-9) (280863377 / 200000000000) (6617 / 25000000000000000000000) nr10 cC4 (by decide +kernel)
  obtain ⟨r12, hr12, nr12⟩ := Fx.mul (-10) (173516271 / 200000000000) (658859 / 250000000000000000000000) nr11 hzz (by decide +kernel)
  obtain ⟨r13, hr13, nr13⟩ := Fx.add (-4) (21267124011 / 500000000000) (957433 / 100000000000000000000000) nr12 cC5 (by decide +kernel)
  obtain ⟨r14, hr14, nr14⟩ := Fx.mul (-5) (16234127157 / 1000000000000) (97936023 / 1000000000000000000000000) nr3 nr13 (by decide +kernel)
  obtain ⟨r15, hr15, nr15⟩ := Fx.add (1) (1325132127157 / 1000000000000) (89940471 / 62500000000000000000000) nr2 nr14 (by decide +kernel)
  refine ⟨r1, r2, r3, r4, r5, r6, r7, r8, r9, r10, r11, r12, r13, r14, r15, hr1, hr2, hr3, hr4, hr5, hr6, hr7, hr8, hr9, hr10, hr11, hr12, hr13, hr14, hr15, ?_⟩
  unfold cosP Qc
  exact nr15.mono (by decide +kernel) (by decide +kernel)
theorem sin_chain {z zz : Nat} {ζ : Rat} (hz : Fx z ζ (393 / 500) (1 / 1000000000000000)) (hzz : Fx zz (ζ * ζ) (154449 / 250000) (1683022303 / 1000000000000000000000000)) :
    ∃ r1 r2 r3 r4 r5 r6 r7 r8 r9 r10 r11 r12 r13, Ieee.double.mul z zz = some r1 ∧ Ieee.double.mul 4460209587652500685 zz = some r2 ∧ Ieee.double.add r2 13716528389658582877 = some r3 ∧ Ieee.double.mul r3 zz = some r4 ∧ Ieee.double.add r4 4523617212962785441 = some r5 ∧ Ieee.double.mul r5 zz = some r6 ∧ Ieee.double.add r6 13774824197404483331 = some r7 ∧ Ieee.double.mul r7 zz = some r8 ∧ Ieee.double.add r8 4575957461383575504 = some r9 ∧ Ieee.double.mul r9 zz = some r10 ∧ Ieee.double.add r10 13818544856648471880 = some r11 ∧ Ieee.double.mul r1 r11 = some r12 ∧ Ieee.double.add z r12 = some r13 ∧ Fx r13 (sinP ζ) (2) (1 / 100000000000000) := by
  have cS0 : Fx 4460209587652500685 S0 (7948115079 / 50000000000000000000) 0 := Fx.lit fv_S0 (by constructor <;> decide +kernel)
  have cS1 : Fx 13716528389658582877 S1 (1252537388143 / 50000000000000000000) 0 := Fx.lit fv_S1 (by constructor <;> decide +kernel)
  have cS2 : Fx 4523617212962785441 S2 (137786568106929 / 50000000000000000000) 0 := Fx.lit fv_S2 (by constructor <;> decide +kernel)
  have cS3 : Fx 13774824197404483331 S3 (19841269829589539 / 100000000000000000000) 0 := Fx.lit fv_S3 (by constructor <;> decide +kernel)
  have cS4 : Fx 4575957461383575504 S4 (52083333333263239 / 6250000000000000000) 0 := Fx.lit fv_S4 (by constructor <;> decide +kernel)
  have cS5 : Fx 13818544856648471880 S5 (833333333333331483 / 5000000000000000000) 0 := Fx.lit fv_S5 (by constructor <;> decide +kernel)
  obtain ⟨r1, hr1, nr1⟩ := Fx.mul (-1) (60698457 / 125000000) (998081341 / 500000000000000000000000) hz hzz (by decide +kernel)
  obtain ⟨r2, hr2, nr2⟩ := Fx.mul (-33) (99 / 1000000000000) (1 / 1000000000000000000000000) cS0 hzz (by decide +kernel)
  obtain ⟨r3, hr3, nr3⟩ := Fx.add (-25) (503 / 20000000000) (1 / 200000000000000000000000) nr2 cS1 (by decide +kernel)
  obtain ⟨r4, hr4, nr4⟩ := Fx.mul (-25) (7769 / 500000000000) (49 / 1000000000000000000000000) nr3 hzz (by decide +kernel)
  obtain ⟨r5, hr5, nr5⟩ := Fx.add (-18) (277127 / 100000000000) (473 / 1000000000000000000000000) nr4 cS2 (by decide +kernel)
  obtain ⟨r6, hr6, nr6⟩ := Fx.mul (-19) (21401 / 12500000000) (5169 / 1000000000000000000000000) nr5 hzz (by decide +kernel)
  obtain ⟨r7, hr7, nr7⟩ := Fx.add (-12) (200124779 / 1000000000000) (1291 / 40000000000000000000000) nr6 cS3 (by decide +kernel)
  obtain ⟨r8, hr8, nr8⟩ := Fx.mul (-12) (1931817 / 15625000000) (383859 / 1000000000000000000000000) nr7 hzz (by decide +kernel)
  obtain ⟨r9, hr9, nr9⟩ := Fx.add (-6) (4228484811 / 500000000000) (2118583 / 1000000000000000000000000) nr8 cS4 (by decide +kernel)
  obtain ⟨r10, hr10, nr10⟩ := Fx.mul (-7) (1044936401 / 200000000000) (16409483 / 1000000000000000000000000) nr9 hzz (by decide +kernel)
  obtain ⟨r11, hr11, nr11⟩ := Fx.add (-2) (2685802323 / 15625000000) (44165059 / 1000000000000000000000000) nr10 cS5 (by decide +kernel)
  obtain ⟨r12, hr12, nr12⟩ := Fx.mul (-3) (83468317089 / 1000000000000) (378446891 / 1000000000000000000000000) nr1 nr11 (by decide +kernel)
  obtain ⟨r13, hr13, nr13⟩ := Fx.add (0) (869468317089 / 1000000000000) (744734597 / 500000000000000000000000) hz nr12 (by decide +kernel)
  refine ⟨r1, r2, r3, r4, r5, r6, r7, r8, r9, r10, r11, r12, r13, hr1, hr2, hr3, hr4, hr5, hr6, hr7, hr8, hr9, hr10, hr11, hr12, hr13, ?_⟩
  unfold sinP Rs
  exact nr13.mono (by decide +kernel) (by decide +kernel)
end Go.Proofs.Qxb6609382aFmt.Fl
