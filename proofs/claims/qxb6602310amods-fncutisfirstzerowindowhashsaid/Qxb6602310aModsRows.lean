/-
  No cell of these rows narrows 'for every input' (looked for: loops, veiled, ifaces, maps, wideKeys, modest, calm, conditions, laid).
  DERIVED. THE GIVEN ROWS OF THIS SEAT. 3 by the template 'for every input the law returns true; each argument reads behind the call as it read before'; 0 by the template 'total and deterministic' (their statements: Qxb6602310aModsTotals.lean).
  GIVEN WITH THE SEED: the statements are not yours to turn. If you find one false, say at which input.
  Laid BY PROGRAM, IN A SANDBOX (cutbox-rows.mjs): the forced cells as the released guide's own fill.sh prints them over the translation f52f924e1a134dd5… (all of the seat's roots in one cut). By AI agents, Wed Nov 11 2026. No macro, syntax, notation, axiom, sorry.
-/
import Derived.Test.Qxb6602310aModsChecked
import GoSem.Claim
import GoSem.ClaimJoined
import GoSem.ClaimMapViews
import Derived.JoinedTies
import Derived.KernelRfl
namespace Go.Proofs.Qxb6602310aMods
/- THE CELL 'sum', in the pinned program and in every row, IS THE sha256 OF THE DUMP (.gsa) THAT Qxb6602310aModsProg.lean LOADS. Nothing in Lean hashes anything: it is a label: what it is worth is what the hold of that sum in a sandbox is worth. -/
noncomputable def Trym.pinned : Pinned := { name := "qxb6602310amods", sum := "f52f924e1a134dd592a1707da2bbd9da40ecdc94e83b788be51c3212565fc0ac", checked := Trym.checked }
namespace Rows
def none {H : Type} : Left H := { results := [], args := [] }

/-- 'zzlaws_internal_chunker_b1.FnCutIsFirstZeroWindowHash': WHATEVER THE INPUT: true; the input reads as it did. -/
def fnCutIsFirstZeroWindowHashSpec : ChangeSpec := { name := "fnCutIsFirstZeroWindowHash", fn := fun _ => fun
  | [d1, d2, d3, d4, d5] => { results := [.lit (.bool true)], args := [d1, d2, d3, d4, d5] }
  | _ => none }
def fnCutIsFirstZeroWindowHashRow : OpenClaim := { program := "qxb6602310amods", sum := "f52f924e1a134dd592a1707da2bbd9da40ecdc94e83b788be51c3212565fc0ac", func := "example.com/mneme/mneme/zzlaws_internal_chunker_b1.FnCutIsFirstZeroWindowHash", spec := "fnCutIsFirstZeroWindowHash", make := .lifted ["publicsums"], apart := false }
def FnCutIsFirstZeroWindowHashSaid : Prop := fnCutIsFirstZeroWindowHashRow.holds Trym.pinned (OpenSpec.ofChange fnCutIsFirstZeroWindowHashSpec)

/-- ITS FALSE NEIGHBOUR: 'it returns false'. Refute it at one input. -/
def fnCutIsFirstZeroWindowHashWrong : ChangeSpec := { name := "fnCutIsFirstZeroWindowHash", fn := fun _ => fun
  | [d1, d2, d3, d4, d5] => { results := [.lit (.bool false)], args := [d1, d2, d3, d4, d5] }
  | _ => none }
def FnCutIsFirstZeroWindowHashWrongFalsely : Prop := fnCutIsFirstZeroWindowHashRow.holds Trym.pinned (OpenSpec.ofChange fnCutIsFirstZeroWindowHashWrong)

/-- 'zzlaws_internal_chunker_b1.FnCutOfPrefix': WHATEVER THE INPUT: true; the input reads as it did. -/
def fnCutOfPrefixSpec : ChangeSpec := { name := "fnCutOfPrefix", fn := fun _ => fun
  | [d1, d2, d3, d4, d5, d6] => { results := [.lit (.bool true)], args := [d1, d2, d3, d4, d5, d6] }
  | _ => none }
def fnCutOfPrefixRow : OpenClaim := { program := "qxb6602310amods", sum := "f52f924e1a134dd592a1707da2bbd9da40ecdc94e83b788be51c3212565fc0ac", func := "example.com/mneme/mneme/zzlaws_internal_chunker_b1.FnCutOfPrefix", spec := "fnCutOfPrefix", make := .lifted ["publicsums"], apart := false }
def FnCutOfPrefixSaid : Prop := fnCutOfPrefixRow.holds Trym.pinned (OpenSpec.ofChange fnCutOfPrefixSpec)

/-- ITS FALSE NEIGHBOUR: 'it returns false'. Refute it at one input. -/
def fnCutOfPrefixWrong : ChangeSpec := { name := "fnCutOfPrefix", fn := fun _ => fun
  | [d1, d2, d3, d4, d5, d6] => { results := [.lit (.bool false)], args := [d1, d2, d3, d4, d5, d6] }
  | _ => none }
def FnCutOfPrefixWrongFalsely : Prop := fnCutOfPrefixRow.holds Trym.pinned (OpenSpec.ofChange fnCutOfPrefixWrong)

/-- 'zzlaws_internal_chunker_b1.FnCutMonotoneInMin': WHATEVER THE INPUT: true; the input reads as it did. -/
def fnCutMonotoneInMinSpec : ChangeSpec := { name := "fnCutMonotoneInMin", fn := fun _ => fun
  | [d1, d2, d3, d4, d5, d6] => { results := [.lit (.bool true)], args := [d1, d2, d3, d4, d5, d6] }
  | _ => none }
def fnCutMonotoneInMinRow : OpenClaim := { program := "qxb6602310amods", sum := "f52f924e1a134dd592a1707da2bbd9da40ecdc94e83b788be51c3212565fc0ac", func := "example.com/mneme/mneme/zzlaws_internal_chunker_b1.FnCutMonotoneInMin", spec := "fnCutMonotoneInMin", make := .lifted ["publicsums"], apart := false }
def FnCutMonotoneInMinSaid : Prop := fnCutMonotoneInMinRow.holds Trym.pinned (OpenSpec.ofChange fnCutMonotoneInMinSpec)

/-- ITS FALSE NEIGHBOUR: 'it returns false'. Refute it at one input. -/
def fnCutMonotoneInMinWrong : ChangeSpec := { name := "fnCutMonotoneInMin", fn := fun _ => fun
  | [d1, d2, d3, d4, d5, d6] => { results := [.lit (.bool false)], args := [d1, d2, d3, d4, d5, d6] }
  | _ => none }
def FnCutMonotoneInMinWrongFalsely : Prop := fnCutMonotoneInMinRow.holds Trym.pinned (OpenSpec.ofChange fnCutMonotoneInMinWrong)

end Rows
end Go.Proofs.Qxb6602310aMods
