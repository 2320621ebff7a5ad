/-
  No cell of these rows narrows 'for every input' (looked for: loops, veiled, ifaces, maps, wideKeys, modest, calm, conditions, laid).
  DERIVED. THE GIVEN ROWS OF THIS SEAT. 2 by the template 'for every input the law returns true; each argument reads behind the call as it read before'; 0 by the template 'total and deterministic' (their statements: Qxb6602189aModsTotals.lean).
  GIVEN WITH THE SEED: the statements are not yours to turn. If you find one false, say at which input.
  Laid BY PROGRAM, IN A SANDBOX (cutbox-rows.mjs): the forced cells as the released guide's own fill.sh prints them over the translation 37f8d9256e43ebe0… (all of the seat's roots in one cut). By AI agents, Wed Nov 11 2026. No macro, syntax, notation, axiom, sorry.
-/
import Derived.Test.Qxb6602189aModsChecked
import GoSem.Claim
import GoSem.ClaimJoined
import GoSem.ClaimMapViews
import Derived.JoinedTies
import Derived.KernelRfl
namespace Go.Proofs.Qxb6602189aMods
/- THE CELL 'sum', in the pinned program and in every row, IS THE sha256 OF THE DUMP (.gsa) THAT Qxb6602189aModsProg.lean LOADS. Nothing in Lean hashes anything: it is a label: what it is worth is what the hold of that sum in a sandbox is worth. -/
noncomputable def Trym.pinned : Pinned := { name := "qxb6602189amods", sum := "37f8d9256e43ebe0b8cd0a2bd1aaef69daabab17738ee63283bfc587664d7847", checked := Trym.checked }
namespace Rows
def none {H : Type} : Left H := { results := [], args := [] }

/-- 'zzlaws_redisadapter_b1.FnPatternMatchesExactlyItsPrefixChannels': WHATEVER THE INPUT: true; the input reads as it did. -/
def fnPatternMatchesExactlyItsPrefixChannelsSpec : ChangeSpec := { name := "fnPatternMatchesExactlyItsPrefixChannels", fn := fun _ => fun
  | [d1, d2] => { results := [.lit (.bool true)], args := [d1, d2] }
  | _ => none }
def fnPatternMatchesExactlyItsPrefixChannelsRow : OpenClaim := { program := "qxb6602189amods", sum := "37f8d9256e43ebe0b8cd0a2bd1aaef69daabab17738ee63283bfc587664d7847", func := "example.com/wirehail/wirehail/zzlaws_redisadapter_b1.FnPatternMatchesExactlyItsPrefixChannels", spec := "fnPatternMatchesExactlyItsPrefixChannels", inPlace := ["internal/bytealg.IndexByteString", "internal/bytealg.IndexString", "internal/abi.NoEscape"], named := ["internal/bytealg.MaxLen"], make := .lifted ["publicsums"], apart := false }
def FnPatternMatchesExactlyItsPrefixChannelsSaid : Prop := fnPatternMatchesExactlyItsPrefixChannelsRow.holds Trym.pinned (OpenSpec.ofChange fnPatternMatchesExactlyItsPrefixChannelsSpec)

/-- ITS FALSE NEIGHBOUR: 'it returns false'. Refute it at one input. -/
def fnPatternMatchesExactlyItsPrefixChannelsWrong : ChangeSpec := { name := "fnPatternMatchesExactlyItsPrefixChannels", fn := fun _ => fun
  | [d1, d2] => { results := [.lit (.bool false)], args := [d1, d2] }
  | _ => none }
def FnPatternMatchesExactlyItsPrefixChannelsWrongFalsely : Prop := fnPatternMatchesExactlyItsPrefixChannelsRow.holds Trym.pinned (OpenSpec.ofChange fnPatternMatchesExactlyItsPrefixChannelsWrong)

/-- 'zzlaws_redisadapter_b1.FnOrEmptyIdempotent': WHATEVER THE INPUT: true; the input reads as it did. -/
def fnOrEmptyIdempotentSpec : ChangeSpec := { name := "fnOrEmptyIdempotent", fn := fun _ => fun
  | [d] => { results := [.lit (.bool true)], args := [d] }
  | _ => none }
def fnOrEmptyIdempotentRow : OpenClaim := { program := "qxb6602189amods", sum := "37f8d9256e43ebe0b8cd0a2bd1aaef69daabab17738ee63283bfc587664d7847", func := "example.com/wirehail/wirehail/zzlaws_redisadapter_b1.FnOrEmptyIdempotent", spec := "fnOrEmptyIdempotent", make := .lifted ["publicsums"], apart := false }
def FnOrEmptyIdempotentSaid : Prop := fnOrEmptyIdempotentRow.holds Trym.pinned (OpenSpec.ofChange fnOrEmptyIdempotentSpec)

/-- ITS FALSE NEIGHBOUR: 'it returns false'. Refute it at one input. -/
def fnOrEmptyIdempotentWrong : ChangeSpec := { name := "fnOrEmptyIdempotent", fn := fun _ => fun
  | [d] => { results := [.lit (.bool false)], args := [d] }
  | _ => none }
def FnOrEmptyIdempotentWrongFalsely : Prop := fnOrEmptyIdempotentRow.holds Trym.pinned (OpenSpec.ofChange fnOrEmptyIdempotentWrong)

end Rows
end Go.Proofs.Qxb6602189aMods
