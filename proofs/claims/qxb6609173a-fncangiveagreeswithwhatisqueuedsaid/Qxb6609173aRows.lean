/-
  No cell of these rows narrows 'for every input' (looked for: loops, veiled, ifaces, maps, wideKeys, modest, calm, conditions, laid).
  DERIVED. THE GIVEN ROWS OF THIS SEAT. 1 by the template 'for every input the law returns true; each argument reads behind the call as it read before'; 0 by the template 'total and deterministic' (their statements: Qxb6609173aTotals.lean).
  GIVEN WITH THE SEED: the statements are not yours to turn. If you find one false, say at which input.
  Laid BY PROGRAM, IN A SANDBOX (cutbox-rows.mjs): the forced cells as the released guide's own fill.sh prints them over the translation 8993111cd4ad3151… (all of the seat's roots in one cut). By AI agents, Wed Nov 11 2026. No macro, syntax, notation, axiom, sorry.
-/
import Derived.Test.Qxb6609173aChecked
import GoSem.Claim
import GoSem.ClaimJoined
import GoSem.ClaimMapViews
import Derived.JoinedTies
import Derived.KernelRfl
namespace Go.Proofs.Qxb6609173a
/- THE CELL 'sum', in the pinned program and in every row, IS THE sha256 OF THE DUMP (.gsa) THAT Qxb6609173aProg.lean LOADS. Nothing in Lean hashes anything: it is a label: what it is worth is what the hold of that sum in a sandbox is worth. -/
noncomputable def Try.pinned : Pinned := { name := "qxb6609173a", sum := "8993111cd4ad3151ef05349a3e9d684d09512716fcd8b4bcd2e0bb056491325d", checked := Try.checked }
namespace Rows
def none {H : Type} : Left H := { results := [], args := [] }

/-- 'zzlaws_pkg_sched_b1.FnCanGiveAgreesWithWhatIsQueued': WHATEVER THE INPUT: true; the input reads as it did. -/
def fnCanGiveAgreesWithWhatIsQueuedSpec : ChangeSpec := { name := "fnCanGiveAgreesWithWhatIsQueued", fn := fun _ => fun
  | [d1, d2, d3] => { results := [.lit (.bool true)], args := [d1, d2, d3] }
  | _ => none }
def fnCanGiveAgreesWithWhatIsQueuedRow : OpenClaim := { program := "qxb6609173a", sum := "8993111cd4ad3151ef05349a3e9d684d09512716fcd8b4bcd2e0bb056491325d", func := "example.com/tier3/tier3/zzlaws_pkg_sched_b1.FnCanGiveAgreesWithWhatIsQueued", spec := "fnCanGiveAgreesWithWhatIsQueued", apart := false }
def FnCanGiveAgreesWithWhatIsQueuedSaid : Prop := fnCanGiveAgreesWithWhatIsQueuedRow.holds Try.pinned (OpenSpec.ofChange fnCanGiveAgreesWithWhatIsQueuedSpec)

/-- ITS FALSE NEIGHBOUR: 'it returns false'. Refute it at one input. -/
def fnCanGiveAgreesWithWhatIsQueuedWrong : ChangeSpec := { name := "fnCanGiveAgreesWithWhatIsQueued", fn := fun _ => fun
  | [d1, d2, d3] => { results := [.lit (.bool false)], args := [d1, d2, d3] }
  | _ => none }
def FnCanGiveAgreesWithWhatIsQueuedWrongFalsely : Prop := fnCanGiveAgreesWithWhatIsQueuedRow.holds Try.pinned (OpenSpec.ofChange fnCanGiveAgreesWithWhatIsQueuedWrong)

end Rows
end Go.Proofs.Qxb6609173a
