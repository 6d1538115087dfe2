/-
  No cell of these rows narrows 'for every input' (looked for: loops, veiled, ifaces, maps, wideKeys, modest, calm, conditions, laid).
  DERIVED. THE GIVEN ROWS OF THIS SEAT. 2 by the template 'for every input the law returns true; each argument reads behind the call as it read before'; 0 by the template 'total and deterministic' (their statements: Qxb6609382aTotals.lean).
  GIVEN WITH THE SEED: the statements are not yours to turn. If you find one false, say at which input.
  Laid BY PROGRAM, IN A SANDBOX (cutbox-rows.mjs): the forced cells as the released guide's own fill.sh prints them over the translation 305666de17cc118c… (all of the seat's roots in one cut). By AI agents, Wed Nov 11 2026. No macro, syntax, notation, axiom, sorry.
-/
import Derived.Test.Qxb6609382aChecked
import GoSem.Claim
import GoSem.ClaimJoined
import GoSem.ClaimMapViews
import Derived.JoinedTies
import Derived.KernelRfl
namespace Go.Proofs.Qxb6609382a
/- THE CELL 'sum', in the pinned program and in every row, IS THE sha256 OF THE DUMP (.gsa) THAT Qxb6609382aProg.lean LOADS. Nothing in Lean hashes anything: it is a label: what it is worth is what the hold of that sum in a sandbox is worth. -/
noncomputable def Try.pinned : Pinned := { name := "qxb6609382a", sum := "305666de17cc118c6e7dcccc21044a9f9172ccb37f411c35b63f4cc3bb9f10df", checked := Try.checked }
namespace Rows
def none {H : Type} : Left H := { results := [], args := [] }

/-- 'zzlaws_root_b1.FnAppendPlacesExact': WHATEVER THE INPUT: true; the input reads as it did. -/
def fnAppendPlacesExactSpec : ChangeSpec := { name := "fnAppendPlacesExact", fn := fun _ => fun
  | [d1, d2] => { results := [.lit (.bool true)], args := [d1, d2] }
  | _ => none }
def fnAppendPlacesExactRow : OpenClaim := { program := "qxb6609382a", sum := "305666de17cc118c6e7dcccc21044a9f9172ccb37f411c35b63f4cc3bb9f10df", func := "example.com/almucantar/almucantar/zzlaws_root_b1.FnAppendPlacesExact", spec := "fnAppendPlacesExact", unfollowed := true, recurses := true, apart := false }
def FnAppendPlacesExactSaid : Prop := fnAppendPlacesExactRow.holds Try.pinned (OpenSpec.ofChange fnAppendPlacesExactSpec)

/-- ITS FALSE NEIGHBOUR: 'it returns false'. Refute it at one input. -/
def fnAppendPlacesExactWrong : ChangeSpec := { name := "fnAppendPlacesExact", fn := fun _ => fun
  | [d1, d2] => { results := [.lit (.bool false)], args := [d1, d2] }
  | _ => none }
def FnAppendPlacesExactWrongFalsely : Prop := fnAppendPlacesExactRow.holds Try.pinned (OpenSpec.ofChange fnAppendPlacesExactWrong)

/-- 'zzlaws_root_b1.FnAppendPlacesSplit': WHATEVER THE INPUT: true; the input reads as it did. -/
def fnAppendPlacesSplitSpec : ChangeSpec := { name := "fnAppendPlacesSplit", fn := fun _ => fun
  | [d1, d2, d3] => { results := [.lit (.bool true)], args := [d1, d2, d3] }
  | _ => none }
def fnAppendPlacesSplitRow : OpenClaim := { program := "qxb6609382a", sum := "305666de17cc118c6e7dcccc21044a9f9172ccb37f411c35b63f4cc3bb9f10df", func := "example.com/almucantar/almucantar/zzlaws_root_b1.FnAppendPlacesSplit", spec := "fnAppendPlacesSplit", unfollowed := true, recurses := true, apart := false }
def FnAppendPlacesSplitSaid : Prop := fnAppendPlacesSplitRow.holds Try.pinned (OpenSpec.ofChange fnAppendPlacesSplitSpec)

/-- ITS FALSE NEIGHBOUR: 'it returns false'. Refute it at one input. -/
def fnAppendPlacesSplitWrong : ChangeSpec := { name := "fnAppendPlacesSplit", fn := fun _ => fun
  | [d1, d2, d3] => { results := [.lit (.bool false)], args := [d1, d2, d3] }
  | _ => none }
def FnAppendPlacesSplitWrongFalsely : Prop := fnAppendPlacesSplitRow.holds Try.pinned (OpenSpec.ofChange fnAppendPlacesSplitWrong)

end Rows
end Go.Proofs.Qxb6609382a
