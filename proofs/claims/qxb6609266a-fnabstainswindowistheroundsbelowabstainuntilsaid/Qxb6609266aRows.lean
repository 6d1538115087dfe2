/-
  No cell of these rows narrows 'for every input' (looked for: loops, veiled, ifaces, maps, wideKeys, modest, calm, conditions, laid).
  DERIVED. THE GIVEN ROWS OF THIS SEAT. 1 by the template 'for every input the law returns true; each argument reads behind the call as it read before'; 0 by the template 'total and deterministic' (their statements: Qxb6609266aTotals.lean).
  GIVEN WITH THE SEED: the statements are not yours to turn. If you find one false, say at which input.
  Laid BY PROGRAM, IN A SANDBOX (cutbox-rows.mjs): the forced cells as the released guide's own fill.sh prints them over the translation 22b0924d3cfd1f2b… (all of the seat's roots in one cut). By AI agents, Wed Nov 11 2026. No macro, syntax, notation, axiom, sorry.
-/
import Derived.Test.Qxb6609266aChecked
import GoSem.Claim
import GoSem.ClaimJoined
import GoSem.ClaimMapViews
import Derived.JoinedTies
import Derived.KernelRfl
namespace Go.Proofs.Qxb6609266a
/- THE CELL 'sum', in the pinned program and in every row, IS THE sha256 OF THE DUMP (.gsa) THAT Qxb6609266aProg.lean LOADS. Nothing in Lean hashes anything: it is a label: what it is worth is what the hold of that sum in a sandbox is worth. -/
noncomputable def Try.pinned : Pinned := { name := "qxb6609266a", sum := "22b0924d3cfd1f2b98b808c908814219bfa3c40a2d67afa02c9a1a953e750e68", checked := Try.checked }
namespace Rows
def none {H : Type} : Left H := { results := [], args := [] }

/-- 'zzlaws_internal_protocol_b1.FnAbstainsWindowIsTheRoundsBelowAbstainUntil': WHATEVER THE INPUT: true; the input reads as it did. -/
def fnAbstainsWindowIsTheRoundsBelowAbstainUntilSpec : ChangeSpec := { name := "fnAbstainsWindowIsTheRoundsBelowAbstainUntil", fn := fun _ => fun
  | [d1, d2, d3, d4, d5] => { results := [.lit (.bool true)], args := [d1, d2, d3, d4, d5] }
  | _ => none }
def fnAbstainsWindowIsTheRoundsBelowAbstainUntilRow : OpenClaim := { program := "qxb6609266a", sum := "22b0924d3cfd1f2b98b808c908814219bfa3c40a2d67afa02c9a1a953e750e68", func := "example.com/swiftweave/swiftweave/zzlaws_internal_protocol_b1.FnAbstainsWindowIsTheRoundsBelowAbstainUntil", spec := "fnAbstainsWindowIsTheRoundsBelowAbstainUntil", plainKeys := false, apart := false }
def FnAbstainsWindowIsTheRoundsBelowAbstainUntilSaid : Prop := fnAbstainsWindowIsTheRoundsBelowAbstainUntilRow.holds Try.pinned (OpenSpec.ofChange fnAbstainsWindowIsTheRoundsBelowAbstainUntilSpec)

/-- ITS FALSE NEIGHBOUR: 'it returns false'. Refute it at one input. -/
def fnAbstainsWindowIsTheRoundsBelowAbstainUntilWrong : ChangeSpec := { name := "fnAbstainsWindowIsTheRoundsBelowAbstainUntil", fn := fun _ => fun
  | [d1, d2, d3, d4, d5] => { results := [.lit (.bool false)], args := [d1, d2, d3, d4, d5] }
  | _ => none }
def FnAbstainsWindowIsTheRoundsBelowAbstainUntilWrongFalsely : Prop := fnAbstainsWindowIsTheRoundsBelowAbstainUntilRow.holds Try.pinned (OpenSpec.ofChange fnAbstainsWindowIsTheRoundsBelowAbstainUntilWrong)

end Rows
end Go.Proofs.Qxb6609266a
