/-
  No cell of these rows narrows 'for every input' (looked for: loops, veiled, ifaces, maps, wideKeys, modest, calm, conditions, laid).
  DERIVED. THE GIVEN ROWS OF THIS SEAT. 5 by the template 'for every input the law returns true; each argument reads behind the call as it read before'; 0 by the template 'total and deterministic' (their statements: Qxb6001440aTotals.lean).
  GIVEN WITH THE SEED: the statements are not yours to turn. If you find one false, say at which input.
  Laid BY PROGRAM, IN A SANDBOX (cutbox-rows.mjs): the forced cells as the released guide's own fill.sh prints them over the translation 4604ea3c8ecf2f09… (all of the seat's roots in one cut). By AI agents, Wed Nov 11 2026. No macro, syntax, notation, axiom, sorry.
-/
import Derived.Test.Qxb6001440aChecked
import GoSem.Claim
import GoSem.ClaimJoined
import GoSem.ClaimMapViews
import Derived.JoinedTies
import Derived.KernelRfl
namespace Go.Proofs.Qxb6001440a
/- THE CELL 'sum', in the pinned program and in every row, IS THE sha256 OF THE DUMP (.gsa) THAT Qxb6001440aProg.lean LOADS. Nothing in Lean hashes anything: it is a label: what it is worth is what the hold of that sum in a sandbox is worth. -/
noncomputable def Try.pinned : Pinned := { name := "qxb6001440a", sum := "4604ea3c8ecf2f09b55321507652d79131be23285e38f94e1b22b70222f5bec8", checked := Try.checked }
namespace Rows
def none {H : Type} : Left H := { results := [], args := [] }

/-- 'zzlaws_internal_policy_b1.FnMatchesGlobKeepsEveryExtension': WHATEVER THE INPUT: true; the input reads as it did. -/
def fnMatchesGlobKeepsEveryExtensionSpec : ChangeSpec := { name := "fnMatchesGlobKeepsEveryExtension", fn := fun _ => fun
  | [d1, d2, d3] => { results := [.lit (.bool true)], args := [d1, d2, d3] }
  | _ => none }
def fnMatchesGlobKeepsEveryExtensionRow : OpenClaim := { program := "qxb6001440a", sum := "4604ea3c8ecf2f09b55321507652d79131be23285e38f94e1b22b70222f5bec8", func := "example.com/sealstead/sealstead/zzlaws_internal_policy_b1.FnMatchesGlobKeepsEveryExtension", spec := "fnMatchesGlobKeepsEveryExtension", inPlace := ["internal/bytealg.IndexByteString", "internal/bytealg.IndexString"], named := ["internal/bytealg.MaxLen"], apart := false }
def FnMatchesGlobKeepsEveryExtensionSaid : Prop := fnMatchesGlobKeepsEveryExtensionRow.holds Try.pinned (OpenSpec.ofChange fnMatchesGlobKeepsEveryExtensionSpec)

/-- ITS FALSE NEIGHBOUR: 'it returns false'. Refute it at one input. -/
def fnMatchesGlobKeepsEveryExtensionWrong : ChangeSpec := { name := "fnMatchesGlobKeepsEveryExtension", fn := fun _ => fun
  | [d1, d2, d3] => { results := [.lit (.bool false)], args := [d1, d2, d3] }
  | _ => none }
def FnMatchesGlobKeepsEveryExtensionWrongFalsely : Prop := fnMatchesGlobKeepsEveryExtensionRow.holds Try.pinned (OpenSpec.ofChange fnMatchesGlobKeepsEveryExtensionWrong)

/-- 'zzlaws_internal_policy_b1.FnMatchesEveryInstanceOfItsText': WHATEVER THE INPUT: true; the input reads as it did. -/
def fnMatchesEveryInstanceOfItsTextSpec : ChangeSpec := { name := "fnMatchesEveryInstanceOfItsText", fn := fun _ => fun
  | [d1, d2, d3] => { results := [.lit (.bool true)], args := [d1, d2, d3] }
  | _ => none }
def fnMatchesEveryInstanceOfItsTextRow : OpenClaim := { program := "qxb6001440a", sum := "4604ea3c8ecf2f09b55321507652d79131be23285e38f94e1b22b70222f5bec8", func := "example.com/sealstead/sealstead/zzlaws_internal_policy_b1.FnMatchesEveryInstanceOfItsText", spec := "fnMatchesEveryInstanceOfItsText", inPlace := ["internal/bytealg.IndexByteString", "internal/bytealg.IndexString"], named := ["internal/bytealg.MaxLen"], apart := false }
def FnMatchesEveryInstanceOfItsTextSaid : Prop := fnMatchesEveryInstanceOfItsTextRow.holds Try.pinned (OpenSpec.ofChange fnMatchesEveryInstanceOfItsTextSpec)

/-- ITS FALSE NEIGHBOUR: 'it returns false'. Refute it at one input. -/
def fnMatchesEveryInstanceOfItsTextWrong : ChangeSpec := { name := "fnMatchesEveryInstanceOfItsText", fn := fun _ => fun
  | [d1, d2, d3] => { results := [.lit (.bool false)], args := [d1, d2, d3] }
  | _ => none }
def FnMatchesEveryInstanceOfItsTextWrongFalsely : Prop := fnMatchesEveryInstanceOfItsTextRow.holds Try.pinned (OpenSpec.ofChange fnMatchesEveryInstanceOfItsTextWrong)

/-- 'zzlaws_internal_policy_b1.FnBeatsIsStrictTotal': WHATEVER THE INPUT: true; the input reads as it did. -/
def fnBeatsIsStrictTotalSpec : ChangeSpec := { name := "fnBeatsIsStrictTotal", fn := fun _ => fun
  | [d1, d2] => { results := [.lit (.bool true)], args := [d1, d2] }
  | _ => none }
def fnBeatsIsStrictTotalRow : OpenClaim := { program := "qxb6001440a", sum := "4604ea3c8ecf2f09b55321507652d79131be23285e38f94e1b22b70222f5bec8", func := "example.com/sealstead/sealstead/zzlaws_internal_policy_b1.FnBeatsIsStrictTotal", spec := "fnBeatsIsStrictTotal", apart := false }
def FnBeatsIsStrictTotalSaid : Prop := fnBeatsIsStrictTotalRow.holds Try.pinned (OpenSpec.ofChange fnBeatsIsStrictTotalSpec)

/-- ITS FALSE NEIGHBOUR: 'it returns false'. Refute it at one input. -/
def fnBeatsIsStrictTotalWrong : ChangeSpec := { name := "fnBeatsIsStrictTotal", fn := fun _ => fun
  | [d1, d2] => { results := [.lit (.bool false)], args := [d1, d2] }
  | _ => none }
def FnBeatsIsStrictTotalWrongFalsely : Prop := fnBeatsIsStrictTotalRow.holds Try.pinned (OpenSpec.ofChange fnBeatsIsStrictTotalWrong)

/-- 'zzlaws_internal_policy_b1.FnBeatsIsTransitive': WHATEVER THE INPUT: true; the input reads as it did. -/
def fnBeatsIsTransitiveSpec : ChangeSpec := { name := "fnBeatsIsTransitive", fn := fun _ => fun
  | [d1, d2, d3] => { results := [.lit (.bool true)], args := [d1, d2, d3] }
  | _ => none }
def fnBeatsIsTransitiveRow : OpenClaim := { program := "qxb6001440a", sum := "4604ea3c8ecf2f09b55321507652d79131be23285e38f94e1b22b70222f5bec8", func := "example.com/sealstead/sealstead/zzlaws_internal_policy_b1.FnBeatsIsTransitive", spec := "fnBeatsIsTransitive", apart := false }
def FnBeatsIsTransitiveSaid : Prop := fnBeatsIsTransitiveRow.holds Try.pinned (OpenSpec.ofChange fnBeatsIsTransitiveSpec)

/-- ITS FALSE NEIGHBOUR: 'it returns false'. Refute it at one input. -/
def fnBeatsIsTransitiveWrong : ChangeSpec := { name := "fnBeatsIsTransitive", fn := fun _ => fun
  | [d1, d2, d3] => { results := [.lit (.bool false)], args := [d1, d2, d3] }
  | _ => none }
def FnBeatsIsTransitiveWrongFalsely : Prop := fnBeatsIsTransitiveRow.holds Try.pinned (OpenSpec.ofChange fnBeatsIsTransitiveWrong)

/-- 'zzlaws_internal_policy_b1.FnExactPathBeatsEveryOtherMatch': WHATEVER THE INPUT: true; the input reads as it did. -/
def fnExactPathBeatsEveryOtherMatchSpec : ChangeSpec := { name := "fnExactPathBeatsEveryOtherMatch", fn := fun _ => fun
  | [d1, d2] => { results := [.lit (.bool true)], args := [d1, d2] }
  | _ => none }
def fnExactPathBeatsEveryOtherMatchRow : OpenClaim := { program := "qxb6001440a", sum := "4604ea3c8ecf2f09b55321507652d79131be23285e38f94e1b22b70222f5bec8", func := "example.com/sealstead/sealstead/zzlaws_internal_policy_b1.FnExactPathBeatsEveryOtherMatch", spec := "fnExactPathBeatsEveryOtherMatch", inPlace := ["internal/bytealg.IndexByteString", "internal/bytealg.IndexString"], named := ["internal/bytealg.MaxLen"], apart := false }
def FnExactPathBeatsEveryOtherMatchSaid : Prop := fnExactPathBeatsEveryOtherMatchRow.holds Try.pinned (OpenSpec.ofChange fnExactPathBeatsEveryOtherMatchSpec)

/-- ITS FALSE NEIGHBOUR: 'it returns false'. Refute it at one input. -/
def fnExactPathBeatsEveryOtherMatchWrong : ChangeSpec := { name := "fnExactPathBeatsEveryOtherMatch", fn := fun _ => fun
  | [d1, d2] => { results := [.lit (.bool false)], args := [d1, d2] }
  | _ => none }
def FnExactPathBeatsEveryOtherMatchWrongFalsely : Prop := fnExactPathBeatsEveryOtherMatchRow.holds Try.pinned (OpenSpec.ofChange fnExactPathBeatsEveryOtherMatchWrong)

end Rows
end Go.Proofs.Qxb6001440a
