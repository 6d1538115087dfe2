/-
  DERIVED. GIVEN WITH THE SEED: THE PROGRAM's TIES (one call each: nine closed facts by the kernel) AND EACH ROW's TIE, after the 31st guide's Derived/Test/Toyas{Tie, Card}.lean. No idea stands in it: it is a product of the set-up. Laid BY PROGRAM, IN A SANDBOX (cutbox-door.mjs). By AI agents, Wed Nov 11 2026. No macro, syntax, notation, axiom, sorry.
-/
import Derived.Test.Qxb6609382aFmtRows
import Derived.LaidByTextLater
import Derived.SevenTiedAt
import Derived.LaidSub
import Derived.LaidOnce
namespace Go.Proofs.Qxb6609382aFmt
open Go
set_option maxRecDepth 100000
theorem seatTie1 : Tryf.prog.laidByTextLater [("math._sin", Rows.laid_math_sin), ("math._cos", Rows.laid_math_cos), ("math.mPi4", Rows.laid_math_mPi4), ("example.com/almucantar/almucantar.siderealRate", Rows.laid_example_com_almucantar_almucantar_siderealRate), ("example.com/almucantar/almucantar.siderealDay", Rows.laid_example_com_almucantar_almucantar_siderealDay)] [.data, .data, .data, .data, .wider] true :=
  Program.laidByTextLater_by_one 34 8 21 (by kernel_rfl) (by kernel_rfl) (by kernel_rfl) (by kernel_rfl) (by kernel_rfl) (by kernel_rfl) (fun _ _ => by kernel_rfl)
theorem noOwnUnsafe : Tryf.pinned.checked.prog.headLifts.contains "ownunsafe" = false := by kernel_rfl
theorem tie : Tryf.prog.laidByTextLater [("math._sin", Rows.laid_math_sin), ("math._cos", Rows.laid_math_cos), ("math.mPi4", Rows.laid_math_mPi4), ("example.com/almucantar/almucantar.siderealRate", Rows.laid_example_com_almucantar_almucantar_siderealRate), ("example.com/almucantar/almucantar.siderealDay", Rows.laid_example_com_almucantar_almucantar_siderealDay)] [.data, .data, .data, .data, .wider] true :=
  Program.laidByTextLater.sub seatTie1 ["math._sin", "math._cos", "math.mPi4", "example.com/almucantar/almucantar.siderealRate", "example.com/almucantar/almucantar.siderealDay"] (by kernel_rfl) (by kernel_rfl)
theorem fnTurningPointsFixedStar_row_tie : Rows.fnTurningPointsFixedStarRow.laidByTextAt .later Tryf.pinned [.data, .data, .data, .data, .wider] true :=
  OpenClaim.laidByTextAt_later rfl rfl tie noOwnUnsafe
theorem fnTurningPointsAtCulminations_row_tie : Rows.fnTurningPointsAtCulminationsRow.laidByTextAt .later Tryf.pinned [.data, .data, .data, .data, .wider] true :=
  OpenClaim.laidByTextAt_later rfl rfl tie noOwnUnsafe
end Go.Proofs.Qxb6609382aFmt
