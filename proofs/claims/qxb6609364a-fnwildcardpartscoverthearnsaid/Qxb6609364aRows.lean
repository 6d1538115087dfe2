/-
  No cell of these rows narrows 'for every input' (looked for: loops, veiled, ifaces, maps, wideKeys, modest, calm, conditions, laid).
  DERIVED. THE GIVEN ROWS OF THIS SEAT. 1 by the template 'for every input the law returns true; each argument reads behind the call as it read before'; 0 by the template 'total and deterministic' (their statements: Qxb6609364aTotals.lean).
  GIVEN WITH THE SEED: the statements are not yours to turn. If you find one false, say at which input.
  Laid BY PROGRAM, IN A SANDBOX (cutbox-rows.mjs): the forced cells as the released guide's own fill.sh prints them over the translation eeed4c9248b3cb0f… (all of the seat's roots in one cut). By AI agents, Wed Nov 11 2026. No macro, syntax, notation, axiom, sorry.
-/
import Derived.Test.Qxb6609364aChecked
import GoSem.Claim
import GoSem.ClaimJoined
import GoSem.ClaimMapViews
import Derived.JoinedTies
import Derived.KernelRfl
namespace Go.Proofs.Qxb6609364a
/- THE CELL 'sum', in the pinned program and in every row, IS THE sha256 OF THE DUMP (.gsa) THAT Qxb6609364aProg.lean LOADS. Nothing in Lean hashes anything: it is a label: what it is worth is what the hold of that sum in a sandbox is worth. -/
noncomputable def Try.pinned : Pinned := { name := "qxb6609364a", sum := "eeed4c9248b3cb0f6e4bd51c4a32874070b69e4877348d44ff355f941139285c", checked := Try.checked }
namespace Rows
def none {H : Type} : Left H := { results := [], args := [] }

/-- 'zzlaws_root_b1.FnWildcardPartsCoverTheArn': WHATEVER THE INPUT: true; the input reads as it did. -/
def fnWildcardPartsCoverTheArnSpec : ChangeSpec := { name := "fnWildcardPartsCoverTheArn", fn := fun _ => fun
  | [d1, d2, d3, d4, d5, d6, d7, d8] => { results := [.lit (.bool true)], args := [d1, d2, d3, d4, d5, d6, d7, d8] }
  | _ => none }
def fnWildcardPartsCoverTheArnRow : OpenClaim := { program := "qxb6609364a", sum := "eeed4c9248b3cb0f6e4bd51c4a32874070b69e4877348d44ff355f941139285c", func := "example.com/globs-to-grants/globs-to-grants/zzlaws_root_b1.FnWildcardPartsCoverTheArn", spec := "fnWildcardPartsCoverTheArn", apart := false }
def FnWildcardPartsCoverTheArnSaid : Prop := fnWildcardPartsCoverTheArnRow.holds Try.pinned (OpenSpec.ofChange fnWildcardPartsCoverTheArnSpec)

/-- ITS FALSE NEIGHBOUR: 'it returns false'. Refute it at one input. -/
def fnWildcardPartsCoverTheArnWrong : ChangeSpec := { name := "fnWildcardPartsCoverTheArn", fn := fun _ => fun
  | [d1, d2, d3, d4, d5, d6, d7, d8] => { results := [.lit (.bool false)], args := [d1, d2, d3, d4, d5, d6, d7, d8] }
  | _ => none }
def FnWildcardPartsCoverTheArnWrongFalsely : Prop := fnWildcardPartsCoverTheArnRow.holds Try.pinned (OpenSpec.ofChange fnWildcardPartsCoverTheArnWrong)

end Rows
end Go.Proofs.Qxb6609364a
