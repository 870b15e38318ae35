/-
  DERIVED. GIVEN WITH THE SEED: THE CARDS: each row of Qxb6613654aFmtRows.lean that lists a variable, with what it lists TIED to the program's text (the seventh form; the later family's looks); each row that meets fmt, with fmt's text TOLD by the authors' own Lean function (tested against real Go, not proved from fmt's source: count such statements apart). THE CARD IS WHAT COUNTS. Prove the row's statement (the work); the ties are given (Qxb6613654aFmtTie.lean); close each card by the builder's one call (the guide's Derived/Test/ToyasCard.lean, 'card_holds'). Laid BY PROGRAM, IN A SANDBOX (cutbox-door.mjs). By AI agents, Wed Nov 11 2026. No macro, syntax, notation, axiom, sorry.
-/
import Derived.Test.Qxb6613654aFmtRows
import GoSem.ClaimSeven
namespace Go.Proofs.Qxb6613654aFmt
namespace Rows

/-- THE TOLD AND TIED CARD OF 'zzlaws_schema_b1.FnTakeReadsLexedTextInOrder'. -/
def fnTakeReadsLexedTextInOrderCard : Claim7 := { stood := { row := fnTakeReadsLexedTextInOrderRow, standIns := [], harness := (true, "06f508b310e7d22b05c7cc18254569842fd4c883a23f6c35661ab23c3ee6bf16"), looks := false }, told := true, laidByText := true, laidKinds := [.data, .pinned], laidTests := true, laidLooks := .later, goes := false }
def FnTakeReadsLexedTextInOrderToldSaid : Prop := Claim7.holds Tryf.pinned (.plain (OpenSpec.ofChange fnTakeReadsLexedTextInOrderSpec)) fnTakeReadsLexedTextInOrderCard
/-- ITS FALSE NEIGHBOUR. Refute it at one input. -/
def FnTakeReadsLexedTextInOrderToldWrongFalsely : Prop := Claim7.holds Tryf.pinned (.plain (OpenSpec.ofChange fnTakeReadsLexedTextInOrderWrong)) fnTakeReadsLexedTextInOrderCard

/-- THE TOLD AND TIED CARD OF 'zzlaws_schema_b1.FnDefinitionsListsEveryTypeOnceByName'. -/
def fnDefinitionsListsEveryTypeOnceByNameCard : Claim7 := { stood := { row := fnDefinitionsListsEveryTypeOnceByNameRow, standIns := [], harness := (true, "06f508b310e7d22b05c7cc18254569842fd4c883a23f6c35661ab23c3ee6bf16"), looks := false }, told := true, laidByText := true, laidKinds := [.sentinel], laidTests := true, laidLooks := .later, goes := false }
def FnDefinitionsListsEveryTypeOnceByNameToldSaid : Prop := Claim7.holds Tryf.pinned (.plain (OpenSpec.ofChange fnDefinitionsListsEveryTypeOnceByNameSpec)) fnDefinitionsListsEveryTypeOnceByNameCard
/-- ITS FALSE NEIGHBOUR. Refute it at one input. -/
def FnDefinitionsListsEveryTypeOnceByNameToldWrongFalsely : Prop := Claim7.holds Tryf.pinned (.plain (OpenSpec.ofChange fnDefinitionsListsEveryTypeOnceByNameWrong)) fnDefinitionsListsEveryTypeOnceByNameCard
end Rows
end Go.Proofs.Qxb6613654aFmt
