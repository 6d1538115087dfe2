import Derived.Test.Qxb6609382aFmtL
import Derived.Test.Qxb6609382aFmtFs
namespace Go.Proofs.Qxb6609382aFmt.W
open Go.RowKit Go.Proofs.Qxb6609382aFmt.Fl

/-- The five numbers of the day, within their domain. -/
structure DayOK (dec h0 sa sl cl : Nat) (δ η α σ κ : Rat) : Prop where
  dec : fv dec = some δ
  bdec : Bd δ (3 / 2)
  h0 : fv h0 = some η
  bh0 : Bd η 64
  sa : fv sa = some α
  bsa : Bd α 1
  sl : fv sl = some σ
  bsl : Bd σ 1
  cl : fv cl = some κ
  lcl : 1 / 20 ≤ κ
  bcl : Bd κ 1

def IsRate (k : Int) (θ : Rat) (e : Ending) : Prop := ∃ v r qv qr, e = .returned (.tuple #[.float .f64 v, .float .f64 r]) ∧ fv v = some qv ∧ fv r = some qr ∧ RateOK k θ qv qr

theorem rate_any {dec h0 sa sl cl : Nat} {δ η α σ κ : Rat} (H : DayOK dec h0 sa sl cl δ η α σ κ) (t b5 b6 : Nat) (τ : Rat) (ht : fv t = some τ) (bt : Bd τ (12 / 10)) (k : Int) (θ : Rat) (hθ : η + Wr * τ = (k : Rat) * (4 * Q4) + θ) (bθ : Bd θ (2 * Q4 + 1 / 1000))
    (w : World) (hg : Glob w) (c5 : w.cell? ⟨b5, 0, none⟩ = some (.float .f64 dec)) (c6 : w.cell? ⟨b6, 0, none⟩ = some (.float .f64 h0)) :
    Calls Tryf.prog 25 #[dayV b5 b6 sa sl cl, .float .f64 t] w fun e w' => IsRate k θ e ∧ Below w.heap.size w w' := by
  have q1 := Q4_lo; have q2 := Q4_hi
  have w1 := WD_lo; have w2 := WD_hi
  obtain ⟨tb, ta, mb, ma, hb, ha, qb, qa, e1, e2, e3, e4, e5, e6, vb, va, db, da, bb, ba⟩ := beside_near ht bt H.h0 H.bh0
  obtain ⟨s, c, vs, fs, ic, hS⟩ := sincos_any dec δ H.dec H.bdec
  obtain ⟨cd, icd, hCd⟩ := cos_any dec δ H.dec (H.bdec.mono (by decide +kernel))
  obtain ⟨cb, icb, hCb⟩ := cos_any hb qb vb (bb.mono (by decide +kernel))
  obtain ⟨ca, ica, hCa⟩ := cos_any ha qa va (ba.mono (by decide +kernel))
  have t1 := bθ.1; have t2 := bθ.2
  have da1 := da.1; have da2 := da.2; have db1 := db.1; have db2 := db.2
  -- the angles
  have ea : qa = (k : Rat) * (4 * Q4) + (qa - (k : Rat) * (4 * Q4)) := by grind
  have eb : qb = (k : Rat) * (4 * Q4) + (qb - (k : Rat) * (4 * Q4)) := by grind
  have za : Bd (qa - (k : Rat) * (4 * Q4) - (θ + Wr * Dl)) (3 / 100000000000000) := ⟨by grind, by grind⟩
  have zb : Bd (qb - (k : Rat) * (4 * Q4) - (θ - Wr * Dl)) (3 / 100000000000000) := ⟨by grind, by grind⟩
  have za1 := za.1; have za2 := za.2; have zb1 := zb.1; have zb2 := zb.2
  obtain ⟨va', fa, Ka⟩ := ica
  obtain ⟨ga, Ga, rfl⟩ := Ka k _ ea ⟨by grind, by grind⟩
  obtain ⟨vb', fb, Kb⟩ := icb
  obtain ⟨gb, Gb, rfl⟩ := Kb k _ eb ⟨by grind, by grind⟩
  obtain ⟨χa, hχa, na, _⟩ := fa
  obtain ⟨χb, hχb, nb, _⟩ := fb
  -- the declination's cosines
  have dz1 := H.bdec.1; have dz2 := H.bdec.2
  have dz : Bd δ (2 * Q4 + 1 / 100) := ⟨by grind, by grind⟩
  have d0 : δ = ((0 : Int) : Rat) * (4 * Q4) + δ := by grind
  have sg0 : sg 0 = 1 := by decide
  obtain ⟨vc, fc, Kc⟩ := ic
  obtain ⟨gc, Gc, rfl⟩ := Kc 0 δ d0 dz
  obtain ⟨vd, fd, Kd⟩ := icd
  obtain ⟨gd, Gd, rfl⟩ := Kd 0 δ d0 dz
  obtain ⟨γ, hγ, nc, _⟩ := fc
  obtain ⟨γd, hγd, nd, _⟩ := fd
  rw [sg0] at nc nd
  obtain ⟨_, g1, g2⟩ := G_diff Gc Gd (Rat.le_refl)
  have g0 := (G_diff Gc Gd (Rat.le_refl)).1
  have gcb := G_bd Gc
  have gdb := G_bd Gd
  have gc1 := gcb.1.1; have gc2 := gcb.1.2; have gd1 := gdb.1.1; have gd2 := gdb.1.2
  have sqd := mul_nn (show 0 ≤ 3 / 2 - δ by grind) (show 0 ≤ 3 / 2 + δ by grind)
  have gc3 := gcb.2.2 (by grind)
  have nc1 := nc.1; have nc2 := nc.2; have nd1 := nd.1; have nd2 := nd.2
  have bγ : Bd γ (12 / 10) := ⟨by grind, by grind⟩
  have bγd : Bd γd (12 / 10) := ⟨by grind, by grind⟩
  have bχa : Bd χa (12 / 10) := by
    have n1 := na.1; have n2 := na.2; have h1 := (G_bd Ga).1.1; have h2 := (G_bd Ga).1.2
    rcases sg_two k with h | h <;> rw [h] at n1 n2 <;> exact ⟨by grind, by grind⟩
  have bχb : Bd χb (12 / 10) := by
    have n1 := nb.1; have n2 := nb.2; have h1 := (G_bd Gb).1.1; have h2 := (G_bd Gb).1.2
    rcases sg_two k with h | h <;> rw [h] at n1 n2 <;> exact ⟨by grind, by grind⟩
  obtain ⟨m1, m2, P, A, j1, j2, vP, vA, bP, dA⟩ := shared_near H.sl H.bsl fs H.cl H.bcl hγ bγ
  have k0 := H.lcl; have k1 := H.bcl.1
  have dA1 := dA.1; have dA2 := dA.2
  have l1 := mul_nn (show 0 ≤ κ - 1 / 20 by grind) (show 0 ≤ γ - 46 / 1000 by grind)
  have l2 := mul_nn (show 0 ≤ 1 - κ by grind) (show 0 ≤ γ by grind)
  have A1 : 2 / 1000 ≤ A := by grind
  have A2 : A ≤ 13 / 10 := by grind
  have hM : Bd (κ * γd - A) (5 / 100000000000) := by
    have := H.bcl.mul (show Bd (γd - γ) (3 / 100000000000) from ⟨by grind, by grind⟩)
    have h1 := this.1; have h2 := this.2
    exact ⟨by grind, by grind⟩
  obtain ⟨m3a, a1a, Ea, qEa, x1, x2, x3, vEa, dEa, bEa⟩ := excess_near vP bP vA ⟨A2, by grind⟩ H.sa H.bsa hχa bχa
  obtain ⟨m3b, a1b, Eb, qEb, y1, y2, y3, vEb, dEb, bEb⟩ := excess_near vP bP vA ⟨A2, by grind⟩ H.sa H.bsa hχb bχb
  have hxx : Bd (A * (χa - χb)) (1 / 100) := by
    have f1 := (fall_any za zb Ga Gb bθ).1
    have n1 := na.1; have n2 := na.2; have n3 := nb.1; have n4 := nb.2; have f2 := f1.1; have f3 := f1.2
    have : Bd (χa - χb) (6 / 1000) := by
      rcases sg_two k with h | h <;> rw [h] at n1 n2 n3 n4 <;> exact ⟨by grind, by grind⟩
    exact ((show Bd A (13 / 10) from ⟨A2, by grind⟩).mul this).mono (by decide +kernel)
  have u1 := dEa.1; have u2 := dEa.2; have u3 := dEb.1; have u4 := dEb.2
  obtain ⟨D, R, qR, z1, z2, vR, dR, _⟩ := quot_near vEa vEb bEa bEb (x := A * (χa - χb)) ⟨by grind, by grind⟩ hxx
  obtain ⟨dh, z3, fdh⟩ := Fx.sub' (-9) (15 / 10000) (1 / 1000000000000000) (Fx.lit va ba) (Fx.lit vb bb) ⟨by grind, by grind⟩ (by decide +kernel)
  obtain ⟨δh, vdh, ddh, bdh⟩ := fdh.worth
  have v1 := ddh.1; have v2 := ddh.2
  obtain ⟨y1', y2', y3', y4', xx1, o1, o2, o3, o4, o5, hsec⟩ := second_near (δ := δh) hγd bγd hχb bχb hχa bχa H.cl H.bcl ⟨by grind, by grind⟩
  have hSg := signed_any dh δh vdh (bdh.mono (by decide +kernel))
  refine (rate_walk t dec h0 b5 b6 sa sl cl tb ta mb ma hb ha Ea Eb D R dh cd cb ca y1' y2' y3' y4' xx1 (fun r => ∃ (q : Rat) (m : Int), fv r = some q ∧ Bd q (TP / 2 + 1 / 100000000000000) ∧ Bd (q - (δh - (m : Rat) * TP)) (3 / 100000000000000)) (fun x3 => ∃ q3, fv x3 = some q3 ∧ RateOK k θ qR q3) e1 e2 e3 e4 e5 e6
    (fun w hg => excess_any ta dec ha s c ca b5 b6 sa sl cl m1 m2 m3a a1a Ea hS hCa j1 j2 x1 x2 x3 w hg) (fun w hg => excess_any tb dec hb s c cb b5 b6 sa sl cl m1 m2 m3b a1b Eb hS hCb j1 j2 y1 y2 y3 w hg) z1 z2 z3
    (fun w => (hSg w).mono (by rintro e w' ⟨⟨r, q, m, rfl, hq, hb1, hb2⟩, rfl⟩; exact ⟨⟨r, rfl, q, m, hq, hb1, hb2⟩, rfl⟩)) hCd hCb hCa o1 o2 o3 o4 o5 ?_ w hg c5 c6).mono ?_
  · intro r hr
    obtain ⟨hr', x2', x3', q3, p1, p2, p3, p4, p5⟩ := hsec r hr
    exact ⟨hr', x2', x3', p1, p2, p3, q3, p4, rate_ok za zb Ga Gb bθ A1 A2 na nb dR p5 hM⟩
  · rintro e w' ⟨⟨x3', rfl, q3, hq3, hok⟩, hbel⟩
    exact ⟨⟨R, x3', qR, q3, rfl, vR, hq3, hok⟩, hbel⟩
end Go.Proofs.Qxb6609382aFmt.W
