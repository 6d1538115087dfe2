import Derived.Test.Qxb6609382aRows
import Derived.WalkKit
import Derived.WalkSpells
import Derived.WalkLawsBesides
import Derived.Outline
import Derived.Deep.QuietTactic
import Derived.BigQuiet
import Derived.Deep.Slices
namespace Go.Proofs.Qxb6609382a.W
open Go.RowKit Go.Deep

/-- How a float stands to itself: equal, or a NaN. -/
def nan (x : Nat) : Bool := FloatKind.f64.format.order x x != some .eq

theorem order_self (x : Nat) : FloatKind.f64.format.order x x = some .eq ∨ FloatKind.f64.format.order x x = none := by
  unfold Ieee.Format.order
  cases FloatKind.f64.format.read x with
  | nan => exact Or.inr rfl
  | infinity s => left; simp [Ieee.Datum.order]
  | number s m i => left; simp [Ieee.Datum.order]

theorem zero_div (x : Nat) (h : FloatKind.f64.format.order x 0 = some .eq) : ∃ r, FloatKind.f64.format.div 4607182418800017408 x = some r ∧ FloatKind.f64.format.order r r = some .eq := by
  have e0 : FloatKind.f64.format.read 0 = .number false 0 (-1074) := by kernel_rfl
  have e1 : FloatKind.f64.format.read 4607182418800017408 = .number false 4503599627370496 (-52) := by kernel_rfl
  have hi : ∀ s : Bool, FloatKind.f64.format.order (FloatKind.f64.format.write (.infinity s)) (FloatKind.f64.format.write (.infinity s)) = some .eq := by
    intro s
    rcases order_self (FloatKind.f64.format.write (.infinity s)) with h' | h'
    · exact h'
    · cases s
      · have : FloatKind.f64.format.order (FloatKind.f64.format.write (.infinity false)) (FloatKind.f64.format.write (.infinity false)) = some .eq := by kernel_rfl
        exact this
      · have : FloatKind.f64.format.order (FloatKind.f64.format.write (.infinity true)) (FloatKind.f64.format.write (.infinity true)) = some .eq := by kernel_rfl
        exact this
  unfold Ieee.Format.order at h
  rw [e0] at h
  unfold Ieee.Format.div
  rw [e1]
  generalize FloatKind.f64.format.read x = d at h ⊢
  cases d with
  | nan => simp [Ieee.Datum.order] at h
  | infinity s => cases s <;> simp [Ieee.Datum.order] at h
  | number s m i =>
    have hm : m = 0 := by
      simp only [Ieee.Datum.order, Option.some.injEq] at h
      rw [Int.compare_eq_eq] at h
      have hz : m <<< (i - min i (-1074)).toNat = 0 := by
        cases s <;> simp [Ieee.signed] at h <;> simpa using h
      rw [Nat.shiftLeft_eq] at hz
      rcases Nat.mul_eq_zero.1 hz with h1 | h1
      · exact h1
      · exact absurd h1 (Nat.ne_of_gt (Nat.two_pow_pos _))
    subst hm
    refine ⟨FloatKind.f64.format.write (.infinity s), ?_, hi s⟩
    cases s <;> simp [Ieee.Datum.quotient]

theorem run_quo_some {P : Program} (w : World) (t : TypeId) (a b r : Nat) (h : FloatKind.f64.format.div a b = some r) : (binOp .quo t (.float .f64 a) (.float .f64 b)).run P w = .ok (.float .f64 r) w := by
  simp [binOp, Op.floatArith, h]

set_option maxHeartbeats 1000000 in
theorem sameFloat_any (x : Nat) (w : World) : Calls Try.prog 15 #[.float .f64 x, .float .f64 x] w fun e w' => e = .returned (.bool true) ∧ w' = w := by
  rcases order_self x with h | h
  · by_cases h0 : FloatKind.f64.format.order x 0 = some .eq
    · obtain ⟨r, hr, hrr⟩ := zero_div x h0
      have hq := fun w => run_quo_some (P := Try.prog) w 33 _ x r hr
      clear hr
      go_enter Try.func15, Try.ntmps15
      go_wp2
      go_ret
      exact ⟨rfl, rfl⟩
    · have h1 : (FloatKind.f64.format.order x 0 == some Ordering.eq) = false := by simpa using h0
      clear h0
      go_enter Try.func15, Try.ntmps15
      go_wp2
      go_ret
      exact ⟨rfl, rfl⟩
  · go_enter Try.func15, Try.ntmps15
    go_wp2
    go_ret
    exact ⟨rfl, rfl⟩

/-- placeIs at the place itself. -/
theorem placeIs_any (x y : Nat) (w : World) : Calls Try.prog 9 #[.agg #[.float .f64 x, .float .f64 y], .float .f64 x, .float .f64 y] w fun e w' => e = .returned (.bool true) ∧ w' = w.alloc (.cells #[.float .f64 x, .float .f64 y] 39) := by
  go_enter Try.func9, Try.ntmps9
  go_wp2_with (go_at_call 15; refine (sameFloat_any _ _).mono ?_; rintro e w' ⟨rfl, rfl⟩)
  go_ret
  exact ⟨rfl, rfl⟩
end Go.Proofs.Qxb6609382a.W
