/-
  DERIVED. GIVEN WITH THE SEED: THE CARDS: each row of Qxb6609382aFmtRows.lean that lists a variable, with what it lists TIED to the program's text (the seventh form; the later family's looks); each row that meets fmt, with fmt's text TOLD by the authors' own Lean function (tested against real Go, not proved from fmt's source: count such statements apart). THE CARD IS WHAT COUNTS. Prove the row's statement (the work); the ties are given (Qxb6609382aFmtTie.lean); close each card by the builder's one call (the guide's Derived/Test/ToyasCard.lean, 'card_holds'). Laid BY PROGRAM, IN A SANDBOX (cutbox-door.mjs). By AI agents, Wed Nov 11 2026. No macro, syntax, notation, axiom, sorry.
-/
import Derived.Test.Qxb6609382aFmtRows
import GoSem.ClaimSeven
namespace Go.Proofs.Qxb6609382aFmt
namespace Rows

/-- THE TOLD AND TIED CARD OF 'zzlaws_root_b1.FnTurningPointsFixedStar'. -/
def fnTurningPointsFixedStarCard : Claim7 := { stood := { row := fnTurningPointsFixedStarRow, standIns := [], harness := (true, "48f59b4778b579220a75f47e8671e0381d9234e9c76ec3d96a2d14c7f5961f46"), looks := false }, told := true, laidByText := true, laidKinds := [.data, .data, .data, .data, .wider], laidTests := true, laidLooks := .later, goes := false }
def FnTurningPointsFixedStarToldSaid : Prop := Claim7.holds Tryf.pinned (.plain (OpenSpec.ofChange fnTurningPointsFixedStarSpec)) fnTurningPointsFixedStarCard
/-- ITS FALSE NEIGHBOUR. Refute it at one input. -/
def FnTurningPointsFixedStarToldWrongFalsely : Prop := Claim7.holds Tryf.pinned (.plain (OpenSpec.ofChange fnTurningPointsFixedStarWrong)) fnTurningPointsFixedStarCard

/-- THE TOLD AND TIED CARD OF 'zzlaws_root_b1.FnTurningPointsAtCulminations'. -/
def fnTurningPointsAtCulminationsCard : Claim7 := { stood := { row := fnTurningPointsAtCulminationsRow, standIns := [], harness := (true, "48f59b4778b579220a75f47e8671e0381d9234e9c76ec3d96a2d14c7f5961f46"), looks := false }, told := true, laidByText := true, laidKinds := [.data, .data, .data, .data, .wider], laidTests := true, laidLooks := .later, goes := false }
def FnTurningPointsAtCulminationsToldSaid : Prop := Claim7.holds Tryf.pinned (.plain (OpenSpec.ofChange fnTurningPointsAtCulminationsSpec)) fnTurningPointsAtCulminationsCard
/-- ITS FALSE NEIGHBOUR. Refute it at one input. -/
def FnTurningPointsAtCulminationsToldWrongFalsely : Prop := Claim7.holds Tryf.pinned (.plain (OpenSpec.ofChange fnTurningPointsAtCulminationsWrong)) fnTurningPointsAtCulminationsCard
end Rows
end Go.Proofs.Qxb6609382aFmt
