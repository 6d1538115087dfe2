import Derived.Test.Qxb6609382aFmtFb
/-! The two polynomials of Go's cosine as exact rational functions, and how fast they fall. -/
namespace Go.Proofs.Qxb6609382aFmt.Fl

def S0 : Rat := 6149556183080141 / 38685626227668133590597632
theorem fv_S0 : fv 4460209587652500685 = some S0 := by decide +kernel
def S1 : Rat := -(7571123942793053 / 302231454903657293676544)
theorem fv_S1 : fv 13716528389658582877 = some S1 := by decide +kernel
def S2 : Rat := 6506786710177953 / 2361183241434822606848
theorem fv_S2 : fv 4523617212962785441 = some S2 := by decide +kernel
def S3 : Rat := -(7320136532877059 / 36893488147419103232)
theorem fv_S3 : fv 13774824197404483331 = some S3 := by decide +kernel
def S4 : Rat := 300239975157629 / 36028797018963968
theorem fv_S4 : fv 4575957461383575504 = some S4 := by decide +kernel
def S5 : Rat := -(750599937895081 / 4503599627370496)
theorem fv_S5 : fv 13818544856648471880 = some S5 := by decide +kernel
def C0 : Rat := -(7030593573755547 / 618970019642690137449562112)
theorem fv_C0 : fv 13666448263388469915 = some C0 := by decide +kernel
def C1 : Rat := 5047434750082821 / 2417851639229258349412352
theorem fv_C1 : fv 4477121864728985349 = some C1 := by decide +kernel
def C2 : Rat := -(2602714736764387 / 9444732965739290427392)
theorem fv_C2 : fv 13732177093698800582 = some C2 := by decide +kernel
def C3 : Rat := 7320136533427445 / 295147905179352825856
theorem fv_C3 : fv 4537941361668146421 = some C3 := by decide +kernel
def C4 : Rat := -(6405119470030737 / 4611686018427387904)
theorem fv_C4 : fv 13787419979223748497 = some C4 := by decide +kernel
def C5 : Rat := 6004799503160651 / 144115188075855872
theorem fv_C5 : fv 4586165620538955083 = some C5 := by decide +kernel
def PA : Rat := 6588397 / 8388608
def PB : Rat := 1328173 / 35184372088832
def PC : Rat := 427063790847255 / 158456325028528675187087900672
theorem fv_PA : fv 4605249456957292544 = some PA := by decide +kernel
theorem fv_PB : fv 4495793288086814720 = some PB := by decide +kernel
theorem fv_PC : fv 4388835458085048688 = some PC := by decide +kernel
def Q4 : Rat := 124451306656115542615260972311 / 158456325028528675187087900672
theorem Q4_sum : PA + PB + PC = Q4 := by decide +kernel
theorem Q4_lo : 7853981633974483 / 10000000000000000 ≤ Q4 := by decide +kernel
theorem Q4_hi : Q4 ≤ 7853981633974484 / 10000000000000000 := by decide +kernel
def Qc (s : Rat) : Rat := ((((C0 * s + C1) * s + C2) * s + C3) * s + C4) * s + C5
def Rs (s : Rat) : Rat := ((((S0 * s + S1) * s + S2) * s + S3) * s + S4) * s + S5
def cosP (z : Rat) : Rat := 1 - 1 / 2 * (z * z) + z * z * (z * z) * Qc (z * z)
def sinP (z : Rat) : Rat := z + z * (z * z) * Rs (z * z)

/-- p is bounded by P and changes by at most L times the step on [lo, hi]. -/
def Lp (lo hi : Rat) (p : Rat → Rat) (P L : Rat) : Prop :=
  (∀ s, lo ≤ s → s ≤ hi → Bd (p s) P) ∧ ∀ s t d, lo ≤ s → s ≤ hi → lo ≤ t → t ≤ hi → Bd (t - s) d → Bd (p t - p s) (L * d)
theorem Lp.const (lo hi c P : Rat) (h : Bd c P) : Lp lo hi (fun _ => c) P 0 := by
  refine ⟨fun _ _ _ => h, fun s t d _ _ _ _ hd => ?_⟩
  have := hd.nonneg
  constructor <;> grind
theorem Lp.step {lo hi : Rat} {p : Rat → Rat} {P L : Rat} (h : Lp lo hi p P L) (σ c P' L' : Rat) (hs : hi ≤ σ ∧ -lo ≤ σ ∧ c ≤ P' - P * σ ∧ -c ≤ P' - P * σ ∧ L * σ + P ≤ L') :
    Lp lo hi (fun s => p s * s + c) P' L' := by
  obtain ⟨h1, h2, h3, h4, h5⟩ := hs
  have bs : ∀ s, lo ≤ s → s ≤ hi → Bd s σ := fun s a b => ⟨by grind, by grind⟩
  refine ⟨fun s a b => ?_, fun s t d a b a' b' hd => ?_⟩
  · have := ((h.1 s a b).mul (bs s a b)).add (show Bd c (P' - P * σ) from ⟨h3, h4⟩)
    exact this.mono (by grind)
  · have t1 := (h.2 s t d a b a' b' hd).mul (bs t a' b')
    have t2 := (h.1 s a b).mul hd
    have t3 := t1.add t2
    have e : (p t - p s) * t + p s * (t - s) = p t * t + c - (p s * s + c) := by grind
    rw [e] at t3
    refine t3.mono ?_
    have := Rat.mul_le_mul_of_nonneg_right h5 hd.nonneg
    grind
theorem Lp.sq {hi : Rat} {p : Rat → Rat} {P L : Rat} (h : Lp 0 hi p P L) (ζ L' : Rat) (hz : 0 ≤ ζ ∧ ζ * ζ ≤ hi ∧ L * (2 * ζ) ≤ L') : Lp (-ζ) ζ (fun z => p (z * z)) P L' := by
  obtain ⟨h0, h1, h2⟩ := hz
  have sq : ∀ z, -ζ ≤ z → z ≤ ζ → 0 ≤ z * z ∧ z * z ≤ hi := by
    intro z a b
    constructor
    · rcases Rat.le_total (a := 0) (b := z) with h | h
      · exact mul_nn h h
      · have := mul_nn (show 0 ≤ -z by grind) (show 0 ≤ -z by grind); grind
    · have := (show Bd z ζ from ⟨b, by grind⟩).mul (show Bd z ζ from ⟨b, by grind⟩)
      have := this.1
      grind
  refine ⟨fun z a b => h.1 _ (sq z a b).1 (sq z a b).2, fun s t d a b a' b' hd => ?_⟩
  have t1 := (show Bd (t + s) (2 * ζ) from ⟨by grind, by grind⟩).mul hd
  have e : (t + s) * (t - s) = t * t - s * s := by grind
  rw [e] at t1
  refine (h.2 _ _ _ (sq s a b).1 (sq s a b).2 (sq t a' b').1 (sq t a' b').2 t1).mono ?_
  have := Rat.mul_le_mul_of_nonneg_right h2 hd.nonneg
  grind

theorem Qc_lp : Lp 0 (31 / 50) Qc (21268689 / 500000000) (709983 / 500000000) := by
  have h0 := Lp.const 0 (31 / 50) C0 (1 / 1000000000) (by constructor <;> decide +kernel)
  have h1 := h0.step (31 / 50) C1 (3 / 1000000000) (1 / 1000000000) (by decide +kernel)
  have h2 := h1.step (31 / 50) C2 (139 / 500000000) (1 / 250000000) (by decide +kernel)
  have h3 := h2.step (31 / 50) C3 (12487 / 500000000) (281 / 1000000000) (by decide +kernel)
  have h4 := h3.step (31 / 50) C4 (1404373 / 1000000000) (25149 / 1000000000) (by decide +kernel)
  have h5 := h4.step (31 / 50) C5 (21268689 / 500000000) (709983 / 500000000) (by decide +kernel)
  exact h5
theorem hc_lp : Lp 0 (31 / 50) (fun s => (Qc s * s + 0) * s + 0) (16351369 / 1000000000) (10658437 / 200000000) :=
  (Qc_lp.step (31 / 50) 0 (1054927 / 40000000) (43417757 / 1000000000) (by decide +kernel)).step (31 / 50) 0 (16351369 / 1000000000) (10658437 / 200000000) (by decide +kernel)
theorem Rs_lp : Lp 0 (63 / 100) Rs (171996111 / 1000000000) (2146661 / 250000000) := by
  have h0 := Lp.const 0 (63 / 100) S0 (1 / 1000000000) (by constructor <;> decide +kernel)
  have h1 := h0.step (63 / 100) S1 (13 / 500000000) (1 / 1000000000) (by decide +kernel)
  have h2 := h1.step (63 / 100) S2 (2773 / 1000000000) (27 / 1000000000) (by decide +kernel)
  have h3 := h2.step (63 / 100) S3 (1251 / 6250000) (2791 / 1000000000) (by decide +kernel)
  have h4 := h3.step (63 / 100) S4 (1691887 / 200000000) (201919 / 1000000000) (by decide +kernel)
  have h5 := h4.step (63 / 100) S5 (171996111 / 1000000000) (2146661 / 250000000) (by decide +kernel)
  exact h5
theorem ks_lp : Lp (-(79 / 100)) (79 / 100) (fun z => ((Rs (z * z) * z + 0) * z + 0) * z + 0) (10600099 / 125000000) (328717331 / 1000000000) :=
  (((Rs_lp.sq (79 / 100) (6783449 / 500000000) (by decide +kernel)).step (79 / 100) 0 (2123077 / 15625000) (182713961 / 1000000000) (by decide +kernel)).step (79 / 100) 0 (53671387 / 500000000) (140110479 / 500000000) (by decide +kernel)).step (79 / 100) 0 (10600099 / 125000000) (328717331 / 1000000000) (by decide +kernel)

theorem cos_diff {u v : Rat} (hu : 0 ≤ u * u) (huv : u * u ≤ v * v) (hv : v * v ≤ 31 / 50) :
    223 / 500 * (v * v - u * u) ≤ cosP u - cosP v ∧ cosP u - cosP v ≤ 277 / 500 * (v * v - u * u) := by
  have h := hc_lp.2 (u * u) (v * v) (v * v - u * u) hu (by grind) (by grind) hv ⟨by grind, by grind⟩
  have e1 : cosP u - cosP v = 1 / 2 * (v * v - u * u) - ((Qc (v * v) * (v * v) + 0) * (v * v) + 0 - ((Qc (u * u) * (u * u) + 0) * (u * u) + 0)) := by
    unfold cosP; grind
  have h1 := h.1; have h2 := h.2
  simp only [] at h1 h2
  rw [e1]
  constructor <;> grind

theorem sin_diff {u v : Rat} (hu : -(79 / 100) ≤ u) (huv : u ≤ v) (hv : v ≤ 79 / 100) :
    67 / 100 * (v - u) ≤ sinP v - sinP u ∧ sinP v - sinP u ≤ 133 / 100 * (v - u) := by
  have h := ks_lp.2 u v (v - u) hu (by grind) (by grind) hv ⟨by grind, by grind⟩
  have e1 : sinP v - sinP u = (v - u) + (((Rs (v * v) * v + 0) * v + 0) * v + 0 - (((Rs (u * u) * u + 0) * u + 0) * u + 0)) := by
    unfold sinP; grind
  have h1 := h.1; have h2 := h.2
  simp only [] at h1 h2
  rw [e1]
  constructor <;> grind
theorem seam : cosP Q4 - sinP Q4 ≤ 1 / 1000000000000000 ∧ sinP Q4 - cosP Q4 ≤ 1 / 1000000000000000 := by decide +kernel
theorem cosP_zero : cosP 0 = 1 := by decide +kernel
theorem sinP_zero : sinP 0 = 0 := by decide +kernel
theorem cosP_neg (z : Rat) : cosP (-z) = cosP z := by unfold cosP; rw [show -z * -z = z * z by grind]
theorem sinP_neg (z : Rat) : sinP (-z) = -sinP z := by unfold sinP; rw [show -z * -z = z * z by grind]; grind
end Go.Proofs.Qxb6609382aFmt.Fl
