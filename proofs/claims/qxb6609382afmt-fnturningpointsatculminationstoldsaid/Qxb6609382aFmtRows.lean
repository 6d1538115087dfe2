/-
  NARROWER THAN 'FOR EVERY INPUT', by the rows' own cells (each row's printed sentence says how): FnTurningPointsFixedStar: laid · FnTurningPointsAtCulminations: laid.
  DERIVED. THE GIVEN ROWS OF THIS SEAT. 2 by the template 'for every input the law returns true; each argument reads behind the call as it read before'; 0 by the template 'total and deterministic' (their statements: Qxb6609382aFmtTotals.lean).
  GIVEN WITH THE SEED: the statements are not yours to turn. If you find one false, say at which input.
  Laid BY PROGRAM, IN A SANDBOX (cutbox-rows.mjs): the forced cells as the released guide's own fill.sh prints them over the translation 3c62e446f691c220… (all of the seat's roots in one cut). By AI agents, Wed Nov 11 2026. No macro, syntax, notation, axiom, sorry.
-/
import Derived.Test.Qxb6609382aFmtChecked
import GoSem.Claim
import GoSem.ClaimJoined
import GoSem.ClaimMapViews
import Derived.JoinedTies
import Derived.KernelRfl
namespace Go.Proofs.Qxb6609382aFmt
/- THE CELL 'sum', in the pinned program and in every row, IS THE sha256 OF THE DUMP (.gsa) THAT Qxb6609382aFmtProg.lean LOADS. Nothing in Lean hashes anything: it is a label: what it is worth is what the hold of that sum in a sandbox is worth. -/
noncomputable def Tryf.pinned : Pinned := { name := "qxb6609382afmt", sum := "3c62e446f691c220077126316d43fc6ae1538b577b9ef64a3e470fcc8b84ff51", checked := Tryf.checked }
namespace Rows
def none {H : Type} : Left H := { results := [], args := [] }

/- WHAT THE LISTED PACKAGE-LEVEL VARIABLES READ AS WHEN THE CALL BEGINS. Each datum BY PROGRAM (the guide's laid-datum.mjs) off the statement by which the dump's own 'gosem.cut.vars' lays the variable. In a bare row this is a premise. The card (Qxb6609382aFmtCards.lean) ties it to the program's text. -/
def laid_math_sin {H : Type} : DataW H := .agg [.lit (.float .f64 4460209587652500685), .lit (.float .f64 13716528389658582877), .lit (.float .f64 4523617212962785441), .lit (.float .f64 13774824197404483331), .lit (.float .f64 4575957461383575504), .lit (.float .f64 13818544856648471880)]
def laid_math_cos {H : Type} : DataW H := .agg [.lit (.float .f64 13666448263388469915), .lit (.float .f64 4477121864728985349), .lit (.float .f64 13732177093698800582), .lit (.float .f64 4537941361668146421), .lit (.float .f64 13787419979223748497), .lit (.float .f64 4586165620538955083)]
def laid_math_mPi4 {H : Type} : DataW H := .agg [.lit (.int .u64 1), .lit (.int .u64 5040379952546458195), .lit (.int .u64 17892431488136887169), .lit (.int .u64 13169980181085364355), .lit (.int .u64 18204331823439776451), .lit (.int .u64 7946843935494350272), .lit (.int .u64 905889640498799673), .lit (.int .u64 18175356263134875261), .lit (.int .u64 15061281708168349961), .lit (.int .u64 15220161563773041794), .lit (.int .u64 8296664548579374057), .lit (.int .u64 4109744767560208502), .lit (.int .u64 4607516669194743839), .lit (.int .u64 16023283104648321598), .lit (.int .u64 15739233654134936430), .lit (.int .u64 11424645774684705882), .lit (.int .u64 16883842788696515318), .lit (.int .u64 8795094592981902804), .lit (.int .u64 15561835991111744016), .lit (.int .u64 12395701187267450711)]
def laid_example_com_almucantar_almucantar_siderealRate {H : Type} : DataW H := .lit (.float .f64 4618779624111797601)
def laid_example_com_almucantar_almucantar_siderealDay {H : Type} : DataW H := .lit (.float .f64 4607157826112761935)

/-- 'zzlaws_root_b1.FnTurningPointsFixedStar': WHATEVER THE INPUT: true; the input reads as it did. -/
def fnTurningPointsFixedStarSpec : ChangeSpec := { name := "fnTurningPointsFixedStar", vars := ["example.com/almucantar/almucantar.siderealDay", "example.com/almucantar/almucantar.siderealRate"], fn := fun _ => fun
  | [d1, d2, d3, d4, d5, g1, g2] => { results := [.lit (.bool true)], args := [d1, d2, d3, d4, d5], vars := [g1, g2] }
  | _ => none }
def fnTurningPointsFixedStarRow : OpenClaim := { program := "qxb6609382afmt", sum := "3c62e446f691c220077126316d43fc6ae1538b577b9ef64a3e470fcc8b84ff51", func := "example.com/almucantar/almucantar/zzlaws_root_b1.FnTurningPointsFixedStar", spec := "fnTurningPointsFixedStar", stops := ["fmt.errorf"], inPlace := ["math.Float64bits", "math.Float64frombits", "fmt.errorf", "math/bits.Add64"], unfollowed := true, recurses := true, named := ["example.com/almucantar/almucantar.siderealDay", "example.com/almucantar/almucantar.siderealRate", "math._cos", "math._sin", "math.mPi4"], apart := false, laid := [("math._sin", laid_math_sin), ("math._cos", laid_math_cos), ("math.mPi4", laid_math_mPi4), ("example.com/almucantar/almucantar.siderealRate", laid_example_com_almucantar_almucantar_siderealRate), ("example.com/almucantar/almucantar.siderealDay", laid_example_com_almucantar_almucantar_siderealDay)] }
/-- NO THEOREM (fmt's text is open here; it may be false): for the released tool's asking of the row's closed facts alone. THE STATEMENT IS 'FnTurningPointsFixedStarToldSaid' (Qxb6609382aFmtCards.lean). -/
def FnTurningPointsFixedStarFormAsk : Prop := fnTurningPointsFixedStarRow.holds Tryf.pinned (OpenSpec.ofChange fnTurningPointsFixedStarSpec)

/-- ITS FALSE NEIGHBOUR: 'it returns false'. Refute it at one input. -/
def fnTurningPointsFixedStarWrong : ChangeSpec := { name := "fnTurningPointsFixedStar", vars := ["example.com/almucantar/almucantar.siderealDay", "example.com/almucantar/almucantar.siderealRate"], fn := fun _ => fun
  | [d1, d2, d3, d4, d5, g1, g2] => { results := [.lit (.bool false)], args := [d1, d2, d3, d4, d5], vars := [g1, g2] }
  | _ => none }
def FnTurningPointsFixedStarWrongFormAsk : Prop := fnTurningPointsFixedStarRow.holds Tryf.pinned (OpenSpec.ofChange fnTurningPointsFixedStarWrong)

/-- 'zzlaws_root_b1.FnTurningPointsAtCulminations': WHATEVER THE INPUT: true; the input reads as it did. -/
def fnTurningPointsAtCulminationsSpec : ChangeSpec := { name := "fnTurningPointsAtCulminations", vars := ["example.com/almucantar/almucantar.siderealDay", "example.com/almucantar/almucantar.siderealRate"], fn := fun _ => fun
  | [d1, d2, d3, d4, d5, g1, g2] => { results := [.lit (.bool true)], args := [d1, d2, d3, d4, d5], vars := [g1, g2] }
  | _ => none }
def fnTurningPointsAtCulminationsRow : OpenClaim := { program := "qxb6609382afmt", sum := "3c62e446f691c220077126316d43fc6ae1538b577b9ef64a3e470fcc8b84ff51", func := "example.com/almucantar/almucantar/zzlaws_root_b1.FnTurningPointsAtCulminations", spec := "fnTurningPointsAtCulminations", stops := ["fmt.errorf"], inPlace := ["math.Float64bits", "math.Float64frombits", "fmt.errorf", "math/bits.Add64"], unfollowed := true, recurses := true, named := ["example.com/almucantar/almucantar.siderealDay", "example.com/almucantar/almucantar.siderealRate", "math._cos", "math._sin", "math.mPi4"], apart := false, laid := [("math._sin", laid_math_sin), ("math._cos", laid_math_cos), ("math.mPi4", laid_math_mPi4), ("example.com/almucantar/almucantar.siderealRate", laid_example_com_almucantar_almucantar_siderealRate), ("example.com/almucantar/almucantar.siderealDay", laid_example_com_almucantar_almucantar_siderealDay)] }
/-- NO THEOREM (fmt's text is open here; it may be false): for the released tool's asking of the row's closed facts alone. THE STATEMENT IS 'FnTurningPointsAtCulminationsToldSaid' (Qxb6609382aFmtCards.lean). -/
def FnTurningPointsAtCulminationsFormAsk : Prop := fnTurningPointsAtCulminationsRow.holds Tryf.pinned (OpenSpec.ofChange fnTurningPointsAtCulminationsSpec)

/-- ITS FALSE NEIGHBOUR: 'it returns false'. Refute it at one input. -/
def fnTurningPointsAtCulminationsWrong : ChangeSpec := { name := "fnTurningPointsAtCulminations", vars := ["example.com/almucantar/almucantar.siderealDay", "example.com/almucantar/almucantar.siderealRate"], fn := fun _ => fun
  | [d1, d2, d3, d4, d5, g1, g2] => { results := [.lit (.bool false)], args := [d1, d2, d3, d4, d5], vars := [g1, g2] }
  | _ => none }
def FnTurningPointsAtCulminationsWrongFormAsk : Prop := fnTurningPointsAtCulminationsRow.holds Tryf.pinned (OpenSpec.ofChange fnTurningPointsAtCulminationsWrong)

end Rows
end Go.Proofs.Qxb6609382aFmt
