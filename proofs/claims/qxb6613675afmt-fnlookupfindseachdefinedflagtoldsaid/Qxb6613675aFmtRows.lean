/-
  No cell of these rows narrows 'for every input' (looked for: loops, veiled, ifaces, maps, wideKeys, modest, calm, conditions, laid).
  DERIVED. THE GIVEN ROWS OF THIS SEAT. 4 by the template 'for every input the law returns true; each argument reads behind the call as it read before'; 0 by the template 'total and deterministic' (their statements: Qxb6613675aFmtTotals.lean).
  GIVEN WITH THE SEED: the statements are not yours to turn. If you find one false, say at which input.
  Laid BY PROGRAM, IN A SANDBOX (cutbox-rows.mjs): the forced cells as the released guide's own fill.sh prints them over the translation 81032319711010b7… (all of the seat's roots in one cut). By AI agents, Wed Nov 11 2026. No macro, syntax, notation, axiom, sorry.
-/
import Derived.Test.Qxb6613675aFmtChecked
import GoSem.Claim
import GoSem.ClaimJoined
import GoSem.ClaimMapViews
import Derived.JoinedTies
import Derived.KernelRfl
namespace Go.Proofs.Qxb6613675aFmt
/- THE CELL 'sum', in the pinned program and in every row, IS THE sha256 OF THE DUMP (.gsa) THAT Qxb6613675aFmtProg.lean LOADS. Nothing in Lean hashes anything: it is a label: what it is worth is what the hold of that sum in a sandbox is worth. -/
noncomputable def Tryf.pinned : Pinned := { name := "qxb6613675afmt", sum := "81032319711010b77f0a910c67b4936f3a8c9b4388cf701017ded49fa6b67734", checked := Tryf.checked }
namespace Rows
def none {H : Type} : Left H := { results := [], args := [] }

/-- 'zzlaws_internal_cmdline_b1.FnLookupFindsEachDefinedFlag': WHATEVER THE INPUT: true; the input reads as it did. -/
def fnLookupFindsEachDefinedFlagSpec : ChangeSpec := { name := "fnLookupFindsEachDefinedFlag", fn := fun _ => fun
  | [d1, d2] => { results := [.lit (.bool true)], args := [d1, d2] }
  | _ => none }
def fnLookupFindsEachDefinedFlagRow : OpenClaim := { program := "qxb6613675afmt", sum := "81032319711010b77f0a910c67b4936f3a8c9b4388cf701017ded49fa6b67734", func := "example.com/remand/remand/zzlaws_internal_cmdline_b1.FnLookupFindsEachDefinedFlag", spec := "fnLookupFindsEachDefinedFlag", stops := ["fmt.Sprintf"], inPlace := ["fmt.Sprintf"], unfollowed := true, recurses := true, apart := false }
/-- NO THEOREM (fmt's text is open here; it may be false): for the released tool's asking of the row's closed facts alone. THE STATEMENT IS 'FnLookupFindsEachDefinedFlagToldSaid' (Qxb6613675aFmtCards.lean). -/
def FnLookupFindsEachDefinedFlagFormAsk : Prop := fnLookupFindsEachDefinedFlagRow.holds Tryf.pinned (OpenSpec.ofChange fnLookupFindsEachDefinedFlagSpec)

/-- ITS FALSE NEIGHBOUR: 'it returns false'. Refute it at one input. -/
def fnLookupFindsEachDefinedFlagWrong : ChangeSpec := { name := "fnLookupFindsEachDefinedFlag", fn := fun _ => fun
  | [d1, d2] => { results := [.lit (.bool false)], args := [d1, d2] }
  | _ => none }
def FnLookupFindsEachDefinedFlagWrongFormAsk : Prop := fnLookupFindsEachDefinedFlagRow.holds Tryf.pinned (OpenSpec.ofChange fnLookupFindsEachDefinedFlagWrong)

/-- 'zzlaws_internal_cmdline_b1.FnLookupScriptOfIntFlags': WHATEVER THE INPUT: true; the input reads as it did. -/
def fnLookupScriptOfIntFlagsSpec : ChangeSpec := { name := "fnLookupScriptOfIntFlags", fn := fun _ => fun
  | [d1, d2] => { results := [.lit (.bool true)], args := [d1, d2] }
  | _ => none }
def fnLookupScriptOfIntFlagsRow : OpenClaim := { program := "qxb6613675afmt", sum := "81032319711010b77f0a910c67b4936f3a8c9b4388cf701017ded49fa6b67734", func := "example.com/remand/remand/zzlaws_internal_cmdline_b1.FnLookupScriptOfIntFlags", spec := "fnLookupScriptOfIntFlags", stops := ["fmt.Sprintf"], inPlace := ["fmt.Sprintf"], unfollowed := true, recurses := true, apart := false }
/-- NO THEOREM (fmt's text is open here; it may be false): for the released tool's asking of the row's closed facts alone. THE STATEMENT IS 'FnLookupScriptOfIntFlagsToldSaid' (Qxb6613675aFmtCards.lean). -/
def FnLookupScriptOfIntFlagsFormAsk : Prop := fnLookupScriptOfIntFlagsRow.holds Tryf.pinned (OpenSpec.ofChange fnLookupScriptOfIntFlagsSpec)

/-- ITS FALSE NEIGHBOUR: 'it returns false'. Refute it at one input. -/
def fnLookupScriptOfIntFlagsWrong : ChangeSpec := { name := "fnLookupScriptOfIntFlags", fn := fun _ => fun
  | [d1, d2] => { results := [.lit (.bool false)], args := [d1, d2] }
  | _ => none }
def FnLookupScriptOfIntFlagsWrongFormAsk : Prop := fnLookupScriptOfIntFlagsRow.holds Tryf.pinned (OpenSpec.ofChange fnLookupScriptOfIntFlagsWrong)

/-- 'zzlaws_internal_cmdline_b1.FnArgsKeepOperandsThroughFlagDefinitions': WHATEVER THE INPUT: true; the input reads as it did. -/
def fnArgsKeepOperandsThroughFlagDefinitionsSpec : ChangeSpec := { name := "fnArgsKeepOperandsThroughFlagDefinitions", fn := fun _ => fun
  | [d1, d2] => { results := [.lit (.bool true)], args := [d1, d2] }
  | _ => none }
def fnArgsKeepOperandsThroughFlagDefinitionsRow : OpenClaim := { program := "qxb6613675afmt", sum := "81032319711010b77f0a910c67b4936f3a8c9b4388cf701017ded49fa6b67734", func := "example.com/remand/remand/zzlaws_internal_cmdline_b1.FnArgsKeepOperandsThroughFlagDefinitions", spec := "fnArgsKeepOperandsThroughFlagDefinitions", stops := ["fmt.Sprintf"], inPlace := ["fmt.Sprintf"], unfollowed := true, recurses := true, apart := false }
/-- NO THEOREM (fmt's text is open here; it may be false): for the released tool's asking of the row's closed facts alone. THE STATEMENT IS 'FnArgsKeepOperandsThroughFlagDefinitionsToldSaid' (Qxb6613675aFmtCards.lean). -/
def FnArgsKeepOperandsThroughFlagDefinitionsFormAsk : Prop := fnArgsKeepOperandsThroughFlagDefinitionsRow.holds Tryf.pinned (OpenSpec.ofChange fnArgsKeepOperandsThroughFlagDefinitionsSpec)

/-- ITS FALSE NEIGHBOUR: 'it returns false'. Refute it at one input. -/
def fnArgsKeepOperandsThroughFlagDefinitionsWrong : ChangeSpec := { name := "fnArgsKeepOperandsThroughFlagDefinitions", fn := fun _ => fun
  | [d1, d2] => { results := [.lit (.bool false)], args := [d1, d2] }
  | _ => none }
def FnArgsKeepOperandsThroughFlagDefinitionsWrongFormAsk : Prop := fnArgsKeepOperandsThroughFlagDefinitionsRow.holds Tryf.pinned (OpenSpec.ofChange fnArgsKeepOperandsThroughFlagDefinitionsWrong)

/-- 'zzlaws_internal_cmdline_b1.FnValueNameByHowFlagWasDefined': WHATEVER THE INPUT: true; the input reads as it did. -/
def fnValueNameByHowFlagWasDefinedSpec : ChangeSpec := { name := "fnValueNameByHowFlagWasDefined", fn := fun _ => fun
  | [d1, d2, d3, d4] => { results := [.lit (.bool true)], args := [d1, d2, d3, d4] }
  | _ => none }
def fnValueNameByHowFlagWasDefinedRow : OpenClaim := { program := "qxb6613675afmt", sum := "81032319711010b77f0a910c67b4936f3a8c9b4388cf701017ded49fa6b67734", func := "example.com/remand/remand/zzlaws_internal_cmdline_b1.FnValueNameByHowFlagWasDefined", spec := "fnValueNameByHowFlagWasDefined", stops := ["fmt.Sprintf"], inPlace := ["fmt.Sprintf"], unfollowed := true, recurses := true, apart := false }
/-- NO THEOREM (fmt's text is open here; it may be false): for the released tool's asking of the row's closed facts alone. THE STATEMENT IS 'FnValueNameByHowFlagWasDefinedToldSaid' (Qxb6613675aFmtCards.lean). -/
def FnValueNameByHowFlagWasDefinedFormAsk : Prop := fnValueNameByHowFlagWasDefinedRow.holds Tryf.pinned (OpenSpec.ofChange fnValueNameByHowFlagWasDefinedSpec)

/-- ITS FALSE NEIGHBOUR: 'it returns false'. Refute it at one input. -/
def fnValueNameByHowFlagWasDefinedWrong : ChangeSpec := { name := "fnValueNameByHowFlagWasDefined", fn := fun _ => fun
  | [d1, d2, d3, d4] => { results := [.lit (.bool false)], args := [d1, d2, d3, d4] }
  | _ => none }
def FnValueNameByHowFlagWasDefinedWrongFormAsk : Prop := fnValueNameByHowFlagWasDefinedRow.holds Tryf.pinned (OpenSpec.ofChange fnValueNameByHowFlagWasDefinedWrong)

end Rows
end Go.Proofs.Qxb6613675aFmt
