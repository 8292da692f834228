/-
  No cell of these rows narrows 'for every input' (looked for: loops, veiled, ifaces, maps, wideKeys, modest, calm, conditions, laid).
  DERIVED. THE GIVEN ROWS OF THIS SEAT. 8 by the template 'for every input the law returns true; each argument reads behind the call as it read before'; 0 by the template 'total and deterministic' (their statements: Qxb6001409aTotals.lean).
  GIVEN WITH THE SEED: the statements are not yours to turn. If you find one false, say at which input.
  Laid BY PROGRAM, IN A SANDBOX (cutbox-rows.mjs): the forced cells as the released guide's own fill.sh prints them over the translation bfab27fae469b2e9… (all of the seat's roots in one cut). By AI agents, Wed Nov 11 2026. No macro, syntax, notation, axiom, sorry.
-/
import Derived.Test.Qxb6001409aChecked
import GoSem.Claim
import GoSem.ClaimJoined
import GoSem.ClaimMapViews
import Derived.JoinedTies
import Derived.KernelRfl
namespace Go.Proofs.Qxb6001409a
/- THE CELL 'sum', in the pinned program and in every row, IS THE sha256 OF THE DUMP (.gsa) THAT Qxb6001409aProg.lean LOADS. Nothing in Lean hashes anything: it is a label: what it is worth is what the hold of that sum in a sandbox is worth. -/
noncomputable def Try.pinned : Pinned := { name := "qxb6001409a", sum := "bfab27fae469b2e928c46dcd513352e08c80fd4f0cb44347831e9b6034d76654", checked := Try.checked }
namespace Rows
def none {H : Type} : Left H := { results := [], args := [] }

/-- 'zzlaws_agent_b1.FnServerRankOrderFree': WHATEVER THE INPUT: true; the input reads as it did. -/
def fnServerRankOrderFreeSpec : ChangeSpec := { name := "fnServerRankOrderFree", fn := fun _ => fun
  | [d1, d2, d3] => { results := [.lit (.bool true)], args := [d1, d2, d3] }
  | _ => none }
def fnServerRankOrderFreeRow : OpenClaim := { program := "qxb6001409a", sum := "bfab27fae469b2e928c46dcd513352e08c80fd4f0cb44347831e9b6034d76654", func := "example.com/millrace/millrace/zzlaws_agent_b1.FnServerRankOrderFree", spec := "fnServerRankOrderFree", apart := false }
def FnServerRankOrderFreeSaid : Prop := fnServerRankOrderFreeRow.holds Try.pinned (OpenSpec.ofChange fnServerRankOrderFreeSpec)

/-- ITS FALSE NEIGHBOUR: 'it returns false'. Refute it at one input. -/
def fnServerRankOrderFreeWrong : ChangeSpec := { name := "fnServerRankOrderFree", fn := fun _ => fun
  | [d1, d2, d3] => { results := [.lit (.bool false)], args := [d1, d2, d3] }
  | _ => none }
def FnServerRankOrderFreeWrongFalsely : Prop := fnServerRankOrderFreeRow.holds Try.pinned (OpenSpec.ofChange fnServerRankOrderFreeWrong)

/-- 'zzlaws_agent_b1.FnServerRankOwnerIffTop': WHATEVER THE INPUT: true; the input reads as it did. -/
def fnServerRankOwnerIffTopSpec : ChangeSpec := { name := "fnServerRankOwnerIffTop", fn := fun _ => fun
  | [d1, d2, d3] => { results := [.lit (.bool true)], args := [d1, d2, d3] }
  | _ => none }
def fnServerRankOwnerIffTopRow : OpenClaim := { program := "qxb6001409a", sum := "bfab27fae469b2e928c46dcd513352e08c80fd4f0cb44347831e9b6034d76654", func := "example.com/millrace/millrace/zzlaws_agent_b1.FnServerRankOwnerIffTop", spec := "fnServerRankOwnerIffTop", apart := false }
def FnServerRankOwnerIffTopSaid : Prop := fnServerRankOwnerIffTopRow.holds Try.pinned (OpenSpec.ofChange fnServerRankOwnerIffTopSpec)

/-- ITS FALSE NEIGHBOUR: 'it returns false'. Refute it at one input. -/
def fnServerRankOwnerIffTopWrong : ChangeSpec := { name := "fnServerRankOwnerIffTop", fn := fun _ => fun
  | [d1, d2, d3] => { results := [.lit (.bool false)], args := [d1, d2, d3] }
  | _ => none }
def FnServerRankOwnerIffTopWrongFalsely : Prop := fnServerRankOwnerIffTopRow.holds Try.pinned (OpenSpec.ofChange fnServerRankOwnerIffTopWrong)

/-- 'zzlaws_agent_b1.FnServerRankAllAgreeOnOwner': WHATEVER THE INPUT: true; the input reads as it did. -/
def fnServerRankAllAgreeOnOwnerSpec : ChangeSpec := { name := "fnServerRankAllAgreeOnOwner", fn := fun _ => fun
  | [d1, d2, d3, d4] => { results := [.lit (.bool true)], args := [d1, d2, d3, d4] }
  | _ => none }
def fnServerRankAllAgreeOnOwnerRow : OpenClaim := { program := "qxb6001409a", sum := "bfab27fae469b2e928c46dcd513352e08c80fd4f0cb44347831e9b6034d76654", func := "example.com/millrace/millrace/zzlaws_agent_b1.FnServerRankAllAgreeOnOwner", spec := "fnServerRankAllAgreeOnOwner", apart := false }
def FnServerRankAllAgreeOnOwnerSaid : Prop := fnServerRankAllAgreeOnOwnerRow.holds Try.pinned (OpenSpec.ofChange fnServerRankAllAgreeOnOwnerSpec)

/-- ITS FALSE NEIGHBOUR: 'it returns false'. Refute it at one input. -/
def fnServerRankAllAgreeOnOwnerWrong : ChangeSpec := { name := "fnServerRankAllAgreeOnOwner", fn := fun _ => fun
  | [d1, d2, d3, d4] => { results := [.lit (.bool false)], args := [d1, d2, d3, d4] }
  | _ => none }
def FnServerRankAllAgreeOnOwnerWrongFalsely : Prop := fnServerRankAllAgreeOnOwnerRow.holds Try.pinned (OpenSpec.ofChange fnServerRankAllAgreeOnOwnerWrong)

/-- 'zzlaws_agent_b1.FnHeadBoundedPrefix': WHATEVER THE INPUT: true; the input reads as it did. -/
def fnHeadBoundedPrefixSpec : ChangeSpec := { name := "fnHeadBoundedPrefix", fn := fun _ => fun
  | [d1, d2, d3, d4] => { results := [.lit (.bool true)], args := [d1, d2, d3, d4] }
  | _ => none }
def fnHeadBoundedPrefixRow : OpenClaim := { program := "qxb6001409a", sum := "bfab27fae469b2e928c46dcd513352e08c80fd4f0cb44347831e9b6034d76654", func := "example.com/millrace/millrace/zzlaws_agent_b1.FnHeadBoundedPrefix", spec := "fnHeadBoundedPrefix", apart := false }
def FnHeadBoundedPrefixSaid : Prop := fnHeadBoundedPrefixRow.holds Try.pinned (OpenSpec.ofChange fnHeadBoundedPrefixSpec)

/-- ITS FALSE NEIGHBOUR: 'it returns false'. Refute it at one input. -/
def fnHeadBoundedPrefixWrong : ChangeSpec := { name := "fnHeadBoundedPrefix", fn := fun _ => fun
  | [d1, d2, d3, d4] => { results := [.lit (.bool false)], args := [d1, d2, d3, d4] }
  | _ => none }
def FnHeadBoundedPrefixWrongFalsely : Prop := fnHeadBoundedPrefixRow.holds Try.pinned (OpenSpec.ofChange fnHeadBoundedPrefixWrong)

/-- 'zzlaws_agent_b1.FnHeadIdempotent': WHATEVER THE INPUT: true; the input reads as it did. -/
def fnHeadIdempotentSpec : ChangeSpec := { name := "fnHeadIdempotent", fn := fun _ => fun
  | [d1, d2, d3, d4] => { results := [.lit (.bool true)], args := [d1, d2, d3, d4] }
  | _ => none }
def fnHeadIdempotentRow : OpenClaim := { program := "qxb6001409a", sum := "bfab27fae469b2e928c46dcd513352e08c80fd4f0cb44347831e9b6034d76654", func := "example.com/millrace/millrace/zzlaws_agent_b1.FnHeadIdempotent", spec := "fnHeadIdempotent", apart := false }
def FnHeadIdempotentSaid : Prop := fnHeadIdempotentRow.holds Try.pinned (OpenSpec.ofChange fnHeadIdempotentSpec)

/-- ITS FALSE NEIGHBOUR: 'it returns false'. Refute it at one input. -/
def fnHeadIdempotentWrong : ChangeSpec := { name := "fnHeadIdempotent", fn := fun _ => fun
  | [d1, d2, d3, d4] => { results := [.lit (.bool false)], args := [d1, d2, d3, d4] }
  | _ => none }
def FnHeadIdempotentWrongFalsely : Prop := fnHeadIdempotentRow.holds Try.pinned (OpenSpec.ofChange fnHeadIdempotentWrong)

/-- 'zzlaws_agent_b1.FnHeadOddFirstLeavesWholeSpans': WHATEVER THE INPUT: true; the input reads as it did. -/
def fnHeadOddFirstLeavesWholeSpansSpec : ChangeSpec := { name := "fnHeadOddFirstLeavesWholeSpans", fn := fun _ => fun
  | [d1, d2, d3] => { results := [.lit (.bool true)], args := [d1, d2, d3] }
  | _ => none }
def fnHeadOddFirstLeavesWholeSpansRow : OpenClaim := { program := "qxb6001409a", sum := "bfab27fae469b2e928c46dcd513352e08c80fd4f0cb44347831e9b6034d76654", func := "example.com/millrace/millrace/zzlaws_agent_b1.FnHeadOddFirstLeavesWholeSpans", spec := "fnHeadOddFirstLeavesWholeSpans", apart := false }
def FnHeadOddFirstLeavesWholeSpansSaid : Prop := fnHeadOddFirstLeavesWholeSpansRow.holds Try.pinned (OpenSpec.ofChange fnHeadOddFirstLeavesWholeSpansSpec)

/-- ITS FALSE NEIGHBOUR: 'it returns false'. Refute it at one input. -/
def fnHeadOddFirstLeavesWholeSpansWrong : ChangeSpec := { name := "fnHeadOddFirstLeavesWholeSpans", fn := fun _ => fun
  | [d1, d2, d3] => { results := [.lit (.bool false)], args := [d1, d2, d3] }
  | _ => none }
def FnHeadOddFirstLeavesWholeSpansWrongFalsely : Prop := fnHeadOddFirstLeavesWholeSpansRow.holds Try.pinned (OpenSpec.ofChange fnHeadOddFirstLeavesWholeSpansWrong)

/-- 'zzlaws_agent_b1.FnEscapeBytesRoundTrip': WHATEVER THE INPUT: true; the input reads as it did. -/
def fnEscapeBytesRoundTripSpec : ChangeSpec := { name := "fnEscapeBytesRoundTrip", fn := fun _ => fun
  | [d] => { results := [.lit (.bool true)], args := [d] }
  | _ => none }
def fnEscapeBytesRoundTripRow : OpenClaim := { program := "qxb6001409a", sum := "bfab27fae469b2e928c46dcd513352e08c80fd4f0cb44347831e9b6034d76654", func := "example.com/millrace/millrace/zzlaws_agent_b1.FnEscapeBytesRoundTrip", spec := "fnEscapeBytesRoundTrip", inPlace := ["internal/bytealg.IndexByteString", "internal/abi.NoEscape"], apart := false }
def FnEscapeBytesRoundTripSaid : Prop := fnEscapeBytesRoundTripRow.holds Try.pinned (OpenSpec.ofChange fnEscapeBytesRoundTripSpec)

/-- ITS FALSE NEIGHBOUR: 'it returns false'. Refute it at one input. -/
def fnEscapeBytesRoundTripWrong : ChangeSpec := { name := "fnEscapeBytesRoundTrip", fn := fun _ => fun
  | [d] => { results := [.lit (.bool false)], args := [d] }
  | _ => none }
def FnEscapeBytesRoundTripWrongFalsely : Prop := fnEscapeBytesRoundTripRow.holds Try.pinned (OpenSpec.ofChange fnEscapeBytesRoundTripWrong)

/-- 'zzlaws_agent_b1.FnEscapeBytesConcat': WHATEVER THE INPUT: true; the input reads as it did. -/
def fnEscapeBytesConcatSpec : ChangeSpec := { name := "fnEscapeBytesConcat", fn := fun _ => fun
  | [d1, d2] => { results := [.lit (.bool true)], args := [d1, d2] }
  | _ => none }
def fnEscapeBytesConcatRow : OpenClaim := { program := "qxb6001409a", sum := "bfab27fae469b2e928c46dcd513352e08c80fd4f0cb44347831e9b6034d76654", func := "example.com/millrace/millrace/zzlaws_agent_b1.FnEscapeBytesConcat", spec := "fnEscapeBytesConcat", inPlace := ["internal/bytealg.IndexByteString", "internal/abi.NoEscape"], apart := false }
def FnEscapeBytesConcatSaid : Prop := fnEscapeBytesConcatRow.holds Try.pinned (OpenSpec.ofChange fnEscapeBytesConcatSpec)

/-- ITS FALSE NEIGHBOUR: 'it returns false'. Refute it at one input. -/
def fnEscapeBytesConcatWrong : ChangeSpec := { name := "fnEscapeBytesConcat", fn := fun _ => fun
  | [d1, d2] => { results := [.lit (.bool false)], args := [d1, d2] }
  | _ => none }
def FnEscapeBytesConcatWrongFalsely : Prop := fnEscapeBytesConcatRow.holds Try.pinned (OpenSpec.ofChange fnEscapeBytesConcatWrong)

end Rows
end Go.Proofs.Qxb6001409a
