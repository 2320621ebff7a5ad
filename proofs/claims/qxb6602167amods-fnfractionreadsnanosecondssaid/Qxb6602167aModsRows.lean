/-
  No cell of these rows narrows 'for every input' (looked for: loops, veiled, ifaces, maps, wideKeys, modest, calm, conditions, laid).
  DERIVED. THE GIVEN ROWS OF THIS SEAT. 4 by the template 'for every input the law returns true; each argument reads behind the call as it read before'; 0 by the template 'total and deterministic' (their statements: Qxb6602167aModsTotals.lean).
  GIVEN WITH THE SEED: the statements are not yours to turn. If you find one false, say at which input.
  Laid BY PROGRAM, IN A SANDBOX (cutbox-rows.mjs): the forced cells as the released guide's own fill.sh prints them over the translation c1b4cb05b57d9aea… (all of the seat's roots in one cut). By AI agents, Wed Nov 11 2026. No macro, syntax, notation, axiom, sorry.
-/
import Derived.Test.Qxb6602167aModsChecked
import GoSem.Claim
import GoSem.ClaimJoined
import GoSem.ClaimMapViews
import Derived.JoinedTies
import Derived.KernelRfl
namespace Go.Proofs.Qxb6602167aMods
/- THE CELL 'sum', in the pinned program and in every row, IS THE sha256 OF THE DUMP (.gsa) THAT Qxb6602167aModsProg.lean LOADS. Nothing in Lean hashes anything: it is a label: what it is worth is what the hold of that sum in a sandbox is worth. -/
noncomputable def Trym.pinned : Pinned := { name := "qxb6602167amods", sum := "c1b4cb05b57d9aeaf25d5397651acc72dd2c3ff377ae9bff2aa796b9a2f474dc", checked := Trym.checked }
namespace Rows
def none {H : Type} : Left H := { results := [], args := [] }

/-- 'zzlaws_internal_api_b1.FnNumberReadsTwoDigits': WHATEVER THE INPUT: true; the input reads as it did. -/
def fnNumberReadsTwoDigitsSpec : ChangeSpec := { name := "fnNumberReadsTwoDigits", fn := fun _ => fun
  | [d1, d2, d3] => { results := [.lit (.bool true)], args := [d1, d2, d3] }
  | _ => none }
def fnNumberReadsTwoDigitsRow : OpenClaim := { program := "qxb6602167amods", sum := "c1b4cb05b57d9aeaf25d5397651acc72dd2c3ff377ae9bff2aa796b9a2f474dc", func := "example.com/restrata/restrata/zzlaws_internal_api_b1.FnNumberReadsTwoDigits", spec := "fnNumberReadsTwoDigits", make := .lifted ["publicsums"], apart := false }
def FnNumberReadsTwoDigitsSaid : Prop := fnNumberReadsTwoDigitsRow.holds Trym.pinned (OpenSpec.ofChange fnNumberReadsTwoDigitsSpec)

/-- ITS FALSE NEIGHBOUR: 'it returns false'. Refute it at one input. -/
def fnNumberReadsTwoDigitsWrong : ChangeSpec := { name := "fnNumberReadsTwoDigits", fn := fun _ => fun
  | [d1, d2, d3] => { results := [.lit (.bool false)], args := [d1, d2, d3] }
  | _ => none }
def FnNumberReadsTwoDigitsWrongFalsely : Prop := fnNumberReadsTwoDigitsRow.holds Trym.pinned (OpenSpec.ofChange fnNumberReadsTwoDigitsWrong)

/-- 'zzlaws_internal_api_b1.FnNumberLimitOnlyGatesOk': WHATEVER THE INPUT: true; the input reads as it did. -/
def fnNumberLimitOnlyGatesOkSpec : ChangeSpec := { name := "fnNumberLimitOnlyGatesOk", fn := fun _ => fun
  | [d1, d2, d3, d4] => { results := [.lit (.bool true)], args := [d1, d2, d3, d4] }
  | _ => none }
def fnNumberLimitOnlyGatesOkRow : OpenClaim := { program := "qxb6602167amods", sum := "c1b4cb05b57d9aeaf25d5397651acc72dd2c3ff377ae9bff2aa796b9a2f474dc", func := "example.com/restrata/restrata/zzlaws_internal_api_b1.FnNumberLimitOnlyGatesOk", spec := "fnNumberLimitOnlyGatesOk", make := .lifted ["publicsums"], apart := false }
def FnNumberLimitOnlyGatesOkSaid : Prop := fnNumberLimitOnlyGatesOkRow.holds Trym.pinned (OpenSpec.ofChange fnNumberLimitOnlyGatesOkSpec)

/-- ITS FALSE NEIGHBOUR: 'it returns false'. Refute it at one input. -/
def fnNumberLimitOnlyGatesOkWrong : ChangeSpec := { name := "fnNumberLimitOnlyGatesOk", fn := fun _ => fun
  | [d1, d2, d3, d4] => { results := [.lit (.bool false)], args := [d1, d2, d3, d4] }
  | _ => none }
def FnNumberLimitOnlyGatesOkWrongFalsely : Prop := fnNumberLimitOnlyGatesOkRow.holds Trym.pinned (OpenSpec.ofChange fnNumberLimitOnlyGatesOkWrong)

/-- 'zzlaws_internal_api_b1.FnFractionReadsNanoseconds': WHATEVER THE INPUT: true; the input reads as it did. -/
def fnFractionReadsNanosecondsSpec : ChangeSpec := { name := "fnFractionReadsNanoseconds", fn := fun _ => fun
  | [d1, d2] => { results := [.lit (.bool true)], args := [d1, d2] }
  | _ => none }
def fnFractionReadsNanosecondsRow : OpenClaim := { program := "qxb6602167amods", sum := "c1b4cb05b57d9aeaf25d5397651acc72dd2c3ff377ae9bff2aa796b9a2f474dc", func := "example.com/restrata/restrata/zzlaws_internal_api_b1.FnFractionReadsNanoseconds", spec := "fnFractionReadsNanoseconds", make := .lifted ["publicsums"], apart := false }
def FnFractionReadsNanosecondsSaid : Prop := fnFractionReadsNanosecondsRow.holds Trym.pinned (OpenSpec.ofChange fnFractionReadsNanosecondsSpec)

/-- ITS FALSE NEIGHBOUR: 'it returns false'. Refute it at one input. -/
def fnFractionReadsNanosecondsWrong : ChangeSpec := { name := "fnFractionReadsNanoseconds", fn := fun _ => fun
  | [d1, d2] => { results := [.lit (.bool false)], args := [d1, d2] }
  | _ => none }
def FnFractionReadsNanosecondsWrongFalsely : Prop := fnFractionReadsNanosecondsRow.holds Trym.pinned (OpenSpec.ofChange fnFractionReadsNanosecondsWrong)

/-- 'zzlaws_internal_api_b1.FnFractionLeadsWithNumber': WHATEVER THE INPUT: true; the input reads as it did. -/
def fnFractionLeadsWithNumberSpec : ChangeSpec := { name := "fnFractionLeadsWithNumber", fn := fun _ => fun
  | [d] => { results := [.lit (.bool true)], args := [d] }
  | _ => none }
def fnFractionLeadsWithNumberRow : OpenClaim := { program := "qxb6602167amods", sum := "c1b4cb05b57d9aeaf25d5397651acc72dd2c3ff377ae9bff2aa796b9a2f474dc", func := "example.com/restrata/restrata/zzlaws_internal_api_b1.FnFractionLeadsWithNumber", spec := "fnFractionLeadsWithNumber", make := .lifted ["publicsums"], apart := false }
def FnFractionLeadsWithNumberSaid : Prop := fnFractionLeadsWithNumberRow.holds Trym.pinned (OpenSpec.ofChange fnFractionLeadsWithNumberSpec)

/-- ITS FALSE NEIGHBOUR: 'it returns false'. Refute it at one input. -/
def fnFractionLeadsWithNumberWrong : ChangeSpec := { name := "fnFractionLeadsWithNumber", fn := fun _ => fun
  | [d] => { results := [.lit (.bool false)], args := [d] }
  | _ => none }
def FnFractionLeadsWithNumberWrongFalsely : Prop := fnFractionLeadsWithNumberRow.holds Trym.pinned (OpenSpec.ofChange fnFractionLeadsWithNumberWrong)

end Rows
end Go.Proofs.Qxb6602167aMods
