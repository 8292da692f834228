/-
  No cell of these rows narrows 'for every input' (looked for: loops, veiled, ifaces, maps, wideKeys, modest, calm, conditions, laid).
  DERIVED. THE GIVEN ROWS OF THIS SEAT. 2 by the template 'for every input the law returns true; each argument reads behind the call as it read before'; 0 by the template 'total and deterministic' (their statements: Qxb6001101aTotals.lean).
  GIVEN WITH THE SEED: the statements are not yours to turn. If you find one false, say at which input.
  Laid BY PROGRAM, IN A SANDBOX (cutbox-rows.mjs): the forced cells as the released guide's own fill.sh prints them over the translation 0c9c3ae1ea96302d… (all of the seat's roots in one cut). By AI agents, Wed Nov 11 2026. No macro, syntax, notation, axiom, sorry.
-/
import Derived.Test.Qxb6001101aChecked
import GoSem.Claim
import GoSem.ClaimJoined
import GoSem.ClaimMapViews
import Derived.JoinedTies
import Derived.KernelRfl
namespace Go.Proofs.Qxb6001101a
/- THE CELL 'sum', in the pinned program and in every row, IS THE sha256 OF THE DUMP (.gsa) THAT Qxb6001101aProg.lean LOADS. Nothing in Lean hashes anything: it is a label: what it is worth is what the hold of that sum in a sandbox is worth. -/
noncomputable def Try.pinned : Pinned := { name := "qxb6001101a", sum := "0c9c3ae1ea96302daf78787464eca3e234171417790d079de86d8abf0f07a3c1", checked := Try.checked }
namespace Rows
def none {H : Type} : Left H := { results := [], args := [] }

/-- 'zzlaws_internal_pgsql_b1.FnNextTokensTileTheScript': WHATEVER THE INPUT: true; the input reads as it did. -/
def fnNextTokensTileTheScriptSpec : ChangeSpec := { name := "fnNextTokensTileTheScript", fn := fun _ => fun
  | [d] => { results := [.lit (.bool true)], args := [d] }
  | _ => none }
def fnNextTokensTileTheScriptRow : OpenClaim := { program := "qxb6001101a", sum := "0c9c3ae1ea96302daf78787464eca3e234171417790d079de86d8abf0f07a3c1", func := "example.com/sure-migrate/sure-migrate/zzlaws_internal_pgsql_b1.FnNextTokensTileTheScript", spec := "fnNextTokensTileTheScript", inPlace := ["internal/bytealg.IndexByte", "internal/bytealg.Index"], named := ["internal/bytealg.MaxLen"], apart := false }
def FnNextTokensTileTheScriptSaid : Prop := fnNextTokensTileTheScriptRow.holds Try.pinned (OpenSpec.ofChange fnNextTokensTileTheScriptSpec)

/-- ITS FALSE NEIGHBOUR: 'it returns false'. Refute it at one input. -/
def fnNextTokensTileTheScriptWrong : ChangeSpec := { name := "fnNextTokensTileTheScript", fn := fun _ => fun
  | [d] => { results := [.lit (.bool false)], args := [d] }
  | _ => none }
def FnNextTokensTileTheScriptWrongFalsely : Prop := fnNextTokensTileTheScriptRow.holds Try.pinned (OpenSpec.ofChange fnNextTokensTileTheScriptWrong)

/-- 'zzlaws_internal_pgsql_b1.FnNextTokenLexesTheSameAlone': WHATEVER THE INPUT: true; the input reads as it did. -/
def fnNextTokenLexesTheSameAloneSpec : ChangeSpec := { name := "fnNextTokenLexesTheSameAlone", fn := fun _ => fun
  | [d1, d2] => { results := [.lit (.bool true)], args := [d1, d2] }
  | _ => none }
def fnNextTokenLexesTheSameAloneRow : OpenClaim := { program := "qxb6001101a", sum := "0c9c3ae1ea96302daf78787464eca3e234171417790d079de86d8abf0f07a3c1", func := "example.com/sure-migrate/sure-migrate/zzlaws_internal_pgsql_b1.FnNextTokenLexesTheSameAlone", spec := "fnNextTokenLexesTheSameAlone", inPlace := ["internal/bytealg.IndexByte", "internal/bytealg.Index"], named := ["internal/bytealg.MaxLen"], apart := false }
def FnNextTokenLexesTheSameAloneSaid : Prop := fnNextTokenLexesTheSameAloneRow.holds Try.pinned (OpenSpec.ofChange fnNextTokenLexesTheSameAloneSpec)

/-- ITS FALSE NEIGHBOUR: 'it returns false'. Refute it at one input. -/
def fnNextTokenLexesTheSameAloneWrong : ChangeSpec := { name := "fnNextTokenLexesTheSameAlone", fn := fun _ => fun
  | [d1, d2] => { results := [.lit (.bool false)], args := [d1, d2] }
  | _ => none }
def FnNextTokenLexesTheSameAloneWrongFalsely : Prop := fnNextTokenLexesTheSameAloneRow.holds Try.pinned (OpenSpec.ofChange fnNextTokenLexesTheSameAloneWrong)

end Rows
end Go.Proofs.Qxb6001101a
