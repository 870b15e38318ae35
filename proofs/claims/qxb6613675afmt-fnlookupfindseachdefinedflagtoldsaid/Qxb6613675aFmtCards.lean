/-
  DERIVED. GIVEN WITH THE SEED: THE CARDS: each row of Qxb6613675aFmtRows.lean that lists a variable, with what it lists TIED to the program's text (the seventh form; the later family's looks); each row that meets fmt, with fmt's text TOLD by the authors' own Lean function (tested against real Go, not proved from fmt's source: count such statements apart). THE CARD IS WHAT COUNTS. Prove the row's statement (the work); the ties are given (Qxb6613675aFmtTie.lean); close each card by the builder's one call (the guide's Derived/Test/ToyasCard.lean, 'card_holds'). Laid BY PROGRAM, IN A SANDBOX (cutbox-door.mjs). By AI agents, Wed Nov 11 2026. No macro, syntax, notation, axiom, sorry.
-/
import Derived.Test.Qxb6613675aFmtRows
import GoSem.ClaimSeven
namespace Go.Proofs.Qxb6613675aFmt
namespace Rows

/-- THE TOLD CARD OF 'zzlaws_internal_cmdline_b1.FnLookupFindsEachDefinedFlag'. -/
def fnLookupFindsEachDefinedFlagCard : Claim7 := { stood := { row := fnLookupFindsEachDefinedFlagRow, standIns := [], harness := (true, "5a2f65483e9ecefa0ef5a0d283967736f6799ace0a9b8fa1f714eee75d4f3370"), looks := true }, told := true, goes := false }
def FnLookupFindsEachDefinedFlagToldSaid : Prop := Claim7.holds Tryf.pinned (.plain (OpenSpec.ofChange fnLookupFindsEachDefinedFlagSpec)) fnLookupFindsEachDefinedFlagCard
/-- ITS FALSE NEIGHBOUR. Refute it at one input. -/
def FnLookupFindsEachDefinedFlagToldWrongFalsely : Prop := Claim7.holds Tryf.pinned (.plain (OpenSpec.ofChange fnLookupFindsEachDefinedFlagWrong)) fnLookupFindsEachDefinedFlagCard

/-- THE TOLD CARD OF 'zzlaws_internal_cmdline_b1.FnLookupScriptOfIntFlags'. -/
def fnLookupScriptOfIntFlagsCard : Claim7 := { stood := { row := fnLookupScriptOfIntFlagsRow, standIns := [], harness := (true, "5a2f65483e9ecefa0ef5a0d283967736f6799ace0a9b8fa1f714eee75d4f3370"), looks := true }, told := true, goes := false }
def FnLookupScriptOfIntFlagsToldSaid : Prop := Claim7.holds Tryf.pinned (.plain (OpenSpec.ofChange fnLookupScriptOfIntFlagsSpec)) fnLookupScriptOfIntFlagsCard
/-- ITS FALSE NEIGHBOUR. Refute it at one input. -/
def FnLookupScriptOfIntFlagsToldWrongFalsely : Prop := Claim7.holds Tryf.pinned (.plain (OpenSpec.ofChange fnLookupScriptOfIntFlagsWrong)) fnLookupScriptOfIntFlagsCard

/-- THE TOLD CARD OF 'zzlaws_internal_cmdline_b1.FnArgsKeepOperandsThroughFlagDefinitions'. -/
def fnArgsKeepOperandsThroughFlagDefinitionsCard : Claim7 := { stood := { row := fnArgsKeepOperandsThroughFlagDefinitionsRow, standIns := [], harness := (true, "5a2f65483e9ecefa0ef5a0d283967736f6799ace0a9b8fa1f714eee75d4f3370"), looks := true }, told := true, goes := false }
def FnArgsKeepOperandsThroughFlagDefinitionsToldSaid : Prop := Claim7.holds Tryf.pinned (.plain (OpenSpec.ofChange fnArgsKeepOperandsThroughFlagDefinitionsSpec)) fnArgsKeepOperandsThroughFlagDefinitionsCard
/-- ITS FALSE NEIGHBOUR. Refute it at one input. -/
def FnArgsKeepOperandsThroughFlagDefinitionsToldWrongFalsely : Prop := Claim7.holds Tryf.pinned (.plain (OpenSpec.ofChange fnArgsKeepOperandsThroughFlagDefinitionsWrong)) fnArgsKeepOperandsThroughFlagDefinitionsCard

/-- THE TOLD CARD OF 'zzlaws_internal_cmdline_b1.FnValueNameByHowFlagWasDefined'. -/
def fnValueNameByHowFlagWasDefinedCard : Claim7 := { stood := { row := fnValueNameByHowFlagWasDefinedRow, standIns := [], harness := (true, "5a2f65483e9ecefa0ef5a0d283967736f6799ace0a9b8fa1f714eee75d4f3370"), looks := true }, told := true, goes := false }
def FnValueNameByHowFlagWasDefinedToldSaid : Prop := Claim7.holds Tryf.pinned (.plain (OpenSpec.ofChange fnValueNameByHowFlagWasDefinedSpec)) fnValueNameByHowFlagWasDefinedCard
/-- ITS FALSE NEIGHBOUR. Refute it at one input. -/
def FnValueNameByHowFlagWasDefinedToldWrongFalsely : Prop := Claim7.holds Tryf.pinned (.plain (OpenSpec.ofChange fnValueNameByHowFlagWasDefinedWrong)) fnValueNameByHowFlagWasDefinedCard
end Rows
end Go.Proofs.Qxb6613675aFmt
