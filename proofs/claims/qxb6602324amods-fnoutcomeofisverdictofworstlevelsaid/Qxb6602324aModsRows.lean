/-
  No cell of these rows narrows 'for every input' (looked for: loops, veiled, ifaces, maps, wideKeys, modest, calm, conditions, laid).
  DERIVED. THE GIVEN ROWS OF THIS SEAT. 3 by the template 'for every input the law returns true; each argument reads behind the call as it read before'; 0 by the template 'total and deterministic' (their statements: Qxb6602324aModsTotals.lean).
  GIVEN WITH THE SEED: the statements are not yours to turn. If you find one false, say at which input.
  Laid BY PROGRAM, IN A SANDBOX (cutbox-rows.mjs): the forced cells as the released guide's own fill.sh prints them over the translation f3831cb4853e719e… (all of the seat's roots in one cut). By AI agents, Wed Nov 11 2026. No macro, syntax, notation, axiom, sorry.
-/
import Derived.Test.Qxb6602324aModsChecked
import GoSem.Claim
import GoSem.ClaimJoined
import GoSem.ClaimMapViews
import Derived.JoinedTies
import Derived.KernelRfl
namespace Go.Proofs.Qxb6602324aMods
/- THE CELL 'sum', in the pinned program and in every row, IS THE sha256 OF THE DUMP (.gsa) THAT Qxb6602324aModsProg.lean LOADS. Nothing in Lean hashes anything: it is a label: what it is worth is what the hold of that sum in a sandbox is worth. -/
noncomputable def Trym.pinned : Pinned := { name := "qxb6602324amods", sum := "f3831cb4853e719ee1adfdc60a8bf2e34f54770680d15f3503ed173320e7ebf1", checked := Trym.checked }
namespace Rows
def none {H : Type} : Left H := { results := [], args := [] }

/-- 'zzlaws_report_b1.FnOutcomeOfIsVerdictOfWorstLevel': WHATEVER THE INPUT: true; the input reads as it did. -/
def fnOutcomeOfIsVerdictOfWorstLevelSpec : ChangeSpec := { name := "fnOutcomeOfIsVerdictOfWorstLevel", fn := fun _ => fun
  | [d1, d2, d3] => { results := [.lit (.bool true)], args := [d1, d2, d3] }
  | _ => none }
def fnOutcomeOfIsVerdictOfWorstLevelRow : OpenClaim := { program := "qxb6602324amods", sum := "f3831cb4853e719ee1adfdc60a8bf2e34f54770680d15f3503ed173320e7ebf1", func := "example.com/zonewright/zonewright/zzlaws_report_b1.FnOutcomeOfIsVerdictOfWorstLevel", spec := "fnOutcomeOfIsVerdictOfWorstLevel", make := .lifted ["publicsums"], apart := false }
def FnOutcomeOfIsVerdictOfWorstLevelSaid : Prop := fnOutcomeOfIsVerdictOfWorstLevelRow.holds Trym.pinned (OpenSpec.ofChange fnOutcomeOfIsVerdictOfWorstLevelSpec)

/-- ITS FALSE NEIGHBOUR: 'it returns false'. Refute it at one input. -/
def fnOutcomeOfIsVerdictOfWorstLevelWrong : ChangeSpec := { name := "fnOutcomeOfIsVerdictOfWorstLevel", fn := fun _ => fun
  | [d1, d2, d3] => { results := [.lit (.bool false)], args := [d1, d2, d3] }
  | _ => none }
def FnOutcomeOfIsVerdictOfWorstLevelWrongFalsely : Prop := fnOutcomeOfIsVerdictOfWorstLevelRow.holds Trym.pinned (OpenSpec.ofChange fnOutcomeOfIsVerdictOfWorstLevelWrong)

/-- 'zzlaws_report_b1.FnOutcomeOfOfJoinedRunIsWorseOfParts': WHATEVER THE INPUT: true; the input reads as it did. -/
def fnOutcomeOfOfJoinedRunIsWorseOfPartsSpec : ChangeSpec := { name := "fnOutcomeOfOfJoinedRunIsWorseOfParts", fn := fun _ => fun
  | [d1, d2, d3, d4, d5, d6] => { results := [.lit (.bool true)], args := [d1, d2, d3, d4, d5, d6] }
  | _ => none }
def fnOutcomeOfOfJoinedRunIsWorseOfPartsRow : OpenClaim := { program := "qxb6602324amods", sum := "f3831cb4853e719ee1adfdc60a8bf2e34f54770680d15f3503ed173320e7ebf1", func := "example.com/zonewright/zonewright/zzlaws_report_b1.FnOutcomeOfOfJoinedRunIsWorseOfParts", spec := "fnOutcomeOfOfJoinedRunIsWorseOfParts", make := .lifted ["publicsums"], apart := false }
def FnOutcomeOfOfJoinedRunIsWorseOfPartsSaid : Prop := fnOutcomeOfOfJoinedRunIsWorseOfPartsRow.holds Trym.pinned (OpenSpec.ofChange fnOutcomeOfOfJoinedRunIsWorseOfPartsSpec)

/-- ITS FALSE NEIGHBOUR: 'it returns false'. Refute it at one input. -/
def fnOutcomeOfOfJoinedRunIsWorseOfPartsWrong : ChangeSpec := { name := "fnOutcomeOfOfJoinedRunIsWorseOfParts", fn := fun _ => fun
  | [d1, d2, d3, d4, d5, d6] => { results := [.lit (.bool false)], args := [d1, d2, d3, d4, d5, d6] }
  | _ => none }
def FnOutcomeOfOfJoinedRunIsWorseOfPartsWrongFalsely : Prop := fnOutcomeOfOfJoinedRunIsWorseOfPartsRow.holds Trym.pinned (OpenSpec.ofChange fnOutcomeOfOfJoinedRunIsWorseOfPartsWrong)

/-- 'zzlaws_report_b1.FnOutcomeOfNeverImprovesWhenALevelRises': WHATEVER THE INPUT: true; the input reads as it did. -/
def fnOutcomeOfNeverImprovesWhenALevelRisesSpec : ChangeSpec := { name := "fnOutcomeOfNeverImprovesWhenALevelRises", fn := fun _ => fun
  | [d1, d2, d3, d4, d5] => { results := [.lit (.bool true)], args := [d1, d2, d3, d4, d5] }
  | _ => none }
def fnOutcomeOfNeverImprovesWhenALevelRisesRow : OpenClaim := { program := "qxb6602324amods", sum := "f3831cb4853e719ee1adfdc60a8bf2e34f54770680d15f3503ed173320e7ebf1", func := "example.com/zonewright/zonewright/zzlaws_report_b1.FnOutcomeOfNeverImprovesWhenALevelRises", spec := "fnOutcomeOfNeverImprovesWhenALevelRises", make := .lifted ["publicsums"], apart := false }
def FnOutcomeOfNeverImprovesWhenALevelRisesSaid : Prop := fnOutcomeOfNeverImprovesWhenALevelRisesRow.holds Trym.pinned (OpenSpec.ofChange fnOutcomeOfNeverImprovesWhenALevelRisesSpec)

/-- ITS FALSE NEIGHBOUR: 'it returns false'. Refute it at one input. -/
def fnOutcomeOfNeverImprovesWhenALevelRisesWrong : ChangeSpec := { name := "fnOutcomeOfNeverImprovesWhenALevelRises", fn := fun _ => fun
  | [d1, d2, d3, d4, d5] => { results := [.lit (.bool false)], args := [d1, d2, d3, d4, d5] }
  | _ => none }
def FnOutcomeOfNeverImprovesWhenALevelRisesWrongFalsely : Prop := fnOutcomeOfNeverImprovesWhenALevelRisesRow.holds Trym.pinned (OpenSpec.ofChange fnOutcomeOfNeverImprovesWhenALevelRisesWrong)

end Rows
end Go.Proofs.Qxb6602324aMods
