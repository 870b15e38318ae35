/-
  No cell of these rows narrows 'for every input' (looked for: loops, veiled, ifaces, maps, wideKeys, modest, calm, conditions, laid).
  DERIVED. THE GIVEN ROWS OF THIS SEAT. 3 by the template 'for every input the law returns true; each argument reads behind the call as it read before'; 0 by the template 'total and deterministic' (their statements: Qxb6613654aTotals.lean).
  GIVEN WITH THE SEED: the statements are not yours to turn. If you find one false, say at which input.
  Laid BY PROGRAM, IN A SANDBOX (cutbox-rows.mjs): the forced cells as the released guide's own fill.sh prints them over the translation dfe82498e04f3590… (all of the seat's roots in one cut). By AI agents, Wed Nov 11 2026. No macro, syntax, notation, axiom, sorry.
-/
import Derived.Test.Qxb6613654aChecked
import GoSem.Claim
import GoSem.ClaimJoined
import GoSem.ClaimMapViews
import Derived.JoinedTies
import Derived.KernelRfl
namespace Go.Proofs.Qxb6613654a
/- THE CELL 'sum', in the pinned program and in every row, IS THE sha256 OF THE DUMP (.gsa) THAT Qxb6613654aProg.lean LOADS. Nothing in Lean hashes anything: it is a label: what it is worth is what the hold of that sum in a sandbox is worth. -/
noncomputable def Try.pinned : Pinned := { name := "qxb6613654a", sum := "dfe82498e04f35909ad7084aea5d2f788c126ae15af2c2aafeaf08df5a1ace80", checked := Try.checked }
namespace Rows
def none {H : Type} : Left H := { results := [], args := [] }

/-- 'zzlaws_schema_b1.FnTakeWalksToTheEnd': WHATEVER THE INPUT: true; the input reads as it did. -/
def fnTakeWalksToTheEndSpec : ChangeSpec := { name := "fnTakeWalksToTheEnd", fn := fun _ => fun
  | [d1, d2, d3, d4] => { results := [.lit (.bool true)], args := [d1, d2, d3, d4] }
  | _ => none }
def fnTakeWalksToTheEndRow : OpenClaim := { program := "qxb6613654a", sum := "dfe82498e04f35909ad7084aea5d2f788c126ae15af2c2aafeaf08df5a1ace80", func := "example.com/grant/grant/zzlaws_schema_b1.FnTakeWalksToTheEnd", spec := "fnTakeWalksToTheEnd", apart := false }
def FnTakeWalksToTheEndSaid : Prop := fnTakeWalksToTheEndRow.holds Try.pinned (OpenSpec.ofChange fnTakeWalksToTheEndSpec)

/-- ITS FALSE NEIGHBOUR: 'it returns false'. Refute it at one input. -/
def fnTakeWalksToTheEndWrong : ChangeSpec := { name := "fnTakeWalksToTheEnd", fn := fun _ => fun
  | [d1, d2, d3, d4] => { results := [.lit (.bool false)], args := [d1, d2, d3, d4] }
  | _ => none }
def FnTakeWalksToTheEndWrongFalsely : Prop := fnTakeWalksToTheEndRow.holds Try.pinned (OpenSpec.ofChange fnTakeWalksToTheEndWrong)

/-- 'zzlaws_schema_b1.FnDefinitionsAgreesWithNarrowedFromNothing': WHATEVER THE INPUT: true; the input reads as it did. -/
def fnDefinitionsAgreesWithNarrowedFromNothingSpec : ChangeSpec := { name := "fnDefinitionsAgreesWithNarrowedFromNothing", fn := fun _ => fun
  | [d] => { results := [.lit (.bool true)], args := [d] }
  | _ => none }
def fnDefinitionsAgreesWithNarrowedFromNothingRow : OpenClaim := { program := "qxb6613654a", sum := "dfe82498e04f35909ad7084aea5d2f788c126ae15af2c2aafeaf08df5a1ace80", func := "example.com/grant/grant/zzlaws_schema_b1.FnDefinitionsAgreesWithNarrowedFromNothing", spec := "fnDefinitionsAgreesWithNarrowedFromNothing", inPlace := ["internal/bytealg.abigen_runtime_cmpstring"], unfollowed := true, recurses := true, apart := false }
def FnDefinitionsAgreesWithNarrowedFromNothingSaid : Prop := fnDefinitionsAgreesWithNarrowedFromNothingRow.holds Try.pinned (OpenSpec.ofChange fnDefinitionsAgreesWithNarrowedFromNothingSpec)

/-- ITS FALSE NEIGHBOUR: 'it returns false'. Refute it at one input. -/
def fnDefinitionsAgreesWithNarrowedFromNothingWrong : ChangeSpec := { name := "fnDefinitionsAgreesWithNarrowedFromNothing", fn := fun _ => fun
  | [d] => { results := [.lit (.bool false)], args := [d] }
  | _ => none }
def FnDefinitionsAgreesWithNarrowedFromNothingWrongFalsely : Prop := fnDefinitionsAgreesWithNarrowedFromNothingRow.holds Try.pinned (OpenSpec.ofChange fnDefinitionsAgreesWithNarrowedFromNothingWrong)

/-- 'zzlaws_schema_b1.FnNarrowedThroughAMiddleSchema': WHATEVER THE INPUT: true; the input reads as it did. -/
def fnNarrowedThroughAMiddleSchemaSpec : ChangeSpec := { name := "fnNarrowedThroughAMiddleSchema", fn := fun _ => fun
  | [d1, d2, d3] => { results := [.lit (.bool true)], args := [d1, d2, d3] }
  | _ => none }
def fnNarrowedThroughAMiddleSchemaRow : OpenClaim := { program := "qxb6613654a", sum := "dfe82498e04f35909ad7084aea5d2f788c126ae15af2c2aafeaf08df5a1ace80", func := "example.com/grant/grant/zzlaws_schema_b1.FnNarrowedThroughAMiddleSchema", spec := "fnNarrowedThroughAMiddleSchema", inPlace := ["internal/bytealg.abigen_runtime_cmpstring"], unfollowed := true, recurses := true, apart := false }
def FnNarrowedThroughAMiddleSchemaSaid : Prop := fnNarrowedThroughAMiddleSchemaRow.holds Try.pinned (OpenSpec.ofChange fnNarrowedThroughAMiddleSchemaSpec)

/-- ITS FALSE NEIGHBOUR: 'it returns false'. Refute it at one input. -/
def fnNarrowedThroughAMiddleSchemaWrong : ChangeSpec := { name := "fnNarrowedThroughAMiddleSchema", fn := fun _ => fun
  | [d1, d2, d3] => { results := [.lit (.bool false)], args := [d1, d2, d3] }
  | _ => none }
def FnNarrowedThroughAMiddleSchemaWrongFalsely : Prop := fnNarrowedThroughAMiddleSchemaRow.holds Try.pinned (OpenSpec.ofChange fnNarrowedThroughAMiddleSchemaWrong)

end Rows
end Go.Proofs.Qxb6613654a
