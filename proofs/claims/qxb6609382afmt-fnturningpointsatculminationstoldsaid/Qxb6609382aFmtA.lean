import Derived.Test.Qxb6609382aFmtRows
import Derived.Test.Qxb6609382aFmtFg
import Derived.WalkKit
import Derived.WalkSpells
import Derived.WalkLawsBesides
import Derived.Outline
import Derived.Deep.QuietTactic
import Derived.BigQuiet
import Derived.Laws.BitsAllLaws
namespace Go.Proofs.Qxb6609382aFmt.W
open Go.RowKit Go.Proofs.Qxb6609382aFmt.Fl

theorem bits_run (x : Nat) (w : World) : (callFunc 28 #[.float .f64 x]).run Tryf.prog w = .ok (.value (.int .u64 (x : Int))) w := by
  rw [run_callFunc_extern (e := Extern.MathFloatBits.float64bits) Tryf.func28 (by kernel_rfl) (by kernel_rfl) (by kernel_rfl) (by kernel_rfl)]
  rfl
theorem frombits_run (x : Nat) (w : World) : (callFunc 27 #[.int .u64 (x : Int)]).run Tryf.prog w = .ok (.value (.float .f64 x)) w := by
  rw [run_callFunc_extern (e := Extern.MathFloatBits.float64frombits) Tryf.func27 (by kernel_rfl) (by kernel_rfl) (by kernel_rfl) (by kernel_rfl)]
  rfl
theorem andNot_abs (x : Nat) (hx : x < 18446744073709551616) : bits .andNot .u64 (x : Int) 9223372036854775808 = ((absW x : Nat) : Int) := by
  have := u64_andNot (x : Int) 9223372036854775808 (by omega) (by omega) (by omega) (by omega)
  rw [this]
  congr 1
  unfold absW
  show x &&& 2 ^ 63 - 1 = _
  rw [Nat.and_two_pow_sub_one_eq_mod]

theorem ord_lt {x y : Nat} {a b : Rat} (hx : fv x = some a) (hy : fv y = some b) (h : a < b) : FloatKind.f64.format.order x y = some .lt := by
  rcases order_val hx hy with ⟨_, h'⟩ | ⟨h', _⟩ | ⟨h', _⟩
  · exact h'
  · exfalso; grind
  · exfalso; grind
theorem ord_gt {x y : Nat} {a b : Rat} (hx : fv x = some a) (hy : fv y = some b) (h : b < a) : FloatKind.f64.format.order x y = some .gt := by
  rcases order_val hx hy with ⟨h', _⟩ | ⟨h', _⟩ | ⟨_, h'⟩
  · exfalso; grind
  · exfalso; grind
  · exact h'
theorem ord_eq {x y : Nat} {a b : Rat} (hx : fv x = some a) (hy : fv y = some b) (h : a = b) : FloatKind.f64.format.order x y = some .eq := by
  rcases order_val hx hy with ⟨h', _⟩ | ⟨_, h'⟩ | ⟨h', _⟩
  · exfalso; grind
  · exact h'
  · exfalso; grind
theorem runMul {x y r : Nat} (h : Ieee.double.mul x y = some r) (t : TypeId) (w : World) : (binOp .mul t (.float .f64 x) (.float .f64 y)).run Tryf.prog w = .ok (.float .f64 r) w := run_float_arith w .mul t .f64 x y r h
theorem runAdd {x y r : Nat} (h : Ieee.double.add x y = some r) (t : TypeId) (w : World) : (binOp .add t (.float .f64 x) (.float .f64 y)).run Tryf.prog w = .ok (.float .f64 r) w := run_float_arith w .add t .f64 x y r h
theorem runSub {x y r : Nat} (h : Ieee.double.sub x y = some r) (t : TypeId) (w : World) : (binOp .sub t (.float .f64 x) (.float .f64 y)).run Tryf.prog w = .ok (.float .f64 r) w := run_float_arith w .sub t .f64 x y r h
theorem runDiv {x y r : Nat} (h : Ieee.double.div x y = some r) (t : TypeId) (w : World) : (binOp .quo t (.float .f64 x) (.float .f64 y)).run Tryf.prog w = .ok (.float .f64 r) w := run_float_arith w .quo t .f64 x y r h

theorem runNeg (x : Nat) (w : World) : (Op.unary .neg (.float .f64 x)).run Tryf.prog w = .ok (.float .f64 (Op.negFloat .f64 x)) w := rfl

set_option maxHeartbeats 400000 in
theorem abs_any (x : Nat) (hx : x < 18446744073709551616) (w : World) :
    Calls Tryf.prog 22 #[.float .f64 x] w fun e w' => e = .returned (.float .f64 (absW x)) ∧ w' = w := by
  have h1 := andNot_abs x hx
  go_enter Tryf.func22, Tryf.ntmps22
  go_wp2_with (simp only [bits_run, frombits_run])
  go_ret
  exact ⟨rfl, rfl⟩

set_option maxHeartbeats 400000 in
theorem isNaN_any (x : Nat) (a : Rat) (hx : fv x = some a) (w : World) :
    Calls Tryf.prog 40 #[.float .f64 x] w fun e w' => e = .returned (.bool false) ∧ w' = w := by
  have h1 := ord_eq hx hx rfl
  go_enter Tryf.func40, Tryf.ntmps40
  go_wp2
  go_ret
  exact ⟨rfl, rfl⟩

theorem fv_max : fv 9218868437227405311 = some ((9007199254740991 : Rat) * p2 971) := by decide +kernel
theorem abs_le {x : Nat} {a A : Rat} (hx : fv x = some a) (h : Bd a A) : ∃ b, fv (absW x) = some b ∧ 0 ≤ b ∧ b ≤ A ∧ (b = a ∨ b = -a) := by
  have h1 := h.1; have h2 := h.2
  rcases abs_val hx with ⟨h3, h4⟩ | ⟨h3, h4⟩
  · exact ⟨a, h4, h3, h1, Or.inl rfl⟩
  · exact ⟨-a, h4, by grind, h2, Or.inr rfl⟩

set_option maxHeartbeats 400000 in
theorem isInf_any (x : Nat) (a : Rat) (hx : fv x = some a) (ha : Bd a 1000) (w : World) :
    Calls Tryf.prog 41 #[.float .f64 x, .int .i64 0] w fun e w' => e = .returned (.bool false) ∧ w' = w := by
  have hlt := fv_lt hx
  obtain ⟨b, hb, _, hb1, _⟩ := abs_le hx ha
  have h1 := ord_lt hb fv_max (by
    have : (1000 : Rat) < (9007199254740991 : Rat) * p2 971 := by decide +kernel
    grind)
  go_enter Tryf.func41, Tryf.ntmps41
  go_wp2_with (refine (abs_any x hlt _).mono ?_; rintro e w' ⟨rfl, rfl⟩)
  go_ret
  exact ⟨rfl, rfl⟩
end Go.Proofs.Qxb6609382aFmt.W
