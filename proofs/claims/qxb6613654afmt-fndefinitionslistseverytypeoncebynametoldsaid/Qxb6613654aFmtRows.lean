/-
  NARROWER THAN 'FOR EVERY INPUT', by the rows' own cells (each row's printed sentence says how): FnTakeReadsLexedTextInOrder: laid · FnDefinitionsListsEveryTypeOnceByName: ifaces, laid.
  DERIVED. THE GIVEN ROWS OF THIS SEAT. 2 by the template 'for every input the law returns true; each argument reads behind the call as it read before'; 0 by the template 'total and deterministic' (their statements: Qxb6613654aFmtTotals.lean).
  GIVEN WITH THE SEED: the statements are not yours to turn. If you find one false, say at which input.
  Laid BY PROGRAM, IN A SANDBOX (cutbox-rows.mjs): the forced cells as the released guide's own fill.sh prints them over the translation 9c7a8d7172212842… (all of the seat's roots in one cut). By AI agents, Wed Nov 11 2026. No macro, syntax, notation, axiom, sorry.
-/
import Derived.Test.Qxb6613654aFmtChecked
import GoSem.PinnedTables
import GoSem.Claim
import GoSem.ClaimJoined
import GoSem.ClaimMapViews
import Derived.JoinedTies
import Derived.KernelRfl
namespace Go.Proofs.Qxb6613654aFmt
/- THE CELL 'sum', in the pinned program and in every row, IS THE sha256 OF THE DUMP (.gsa) THAT Qxb6613654aFmtProg.lean LOADS. Nothing in Lean hashes anything: it is a label: what it is worth is what the hold of that sum in a sandbox is worth. -/
noncomputable def Tryf.pinned : Pinned := { name := "qxb6613654afmt", sum := "9c7a8d7172212842426d35fb837946f253fc66b62c3edbd24aefc08b5c00413c", checked := Tryf.checked }
namespace Rows
def none {H : Type} : Left H := { results := [], args := [] }

/- WHAT THE LISTED PACKAGE-LEVEL VARIABLES READ AS WHEN THE CALL BEGINS. Each datum BY PROGRAM (the guide's laid-datum.mjs) off the statement by which the dump's own 'gosem.cut.vars' lays the variable. In a bare row this is a premise. The card (Qxb6613654aFmtCards.lean) ties it to the program's text. -/
def laid_unicode_utf8_acceptRanges {H : Type} : DataW H := .agg [.agg [.lit (.int .u8 128), .lit (.int .u8 191)], .agg [.lit (.int .u8 160), .lit (.int .u8 191)], .agg [.lit (.int .u8 128), .lit (.int .u8 159)], .agg [.lit (.int .u8 144), .lit (.int .u8 191)], .agg [.lit (.int .u8 128), .lit (.int .u8 143)], .agg [.lit (.int .u8 0), .lit (.int .u8 0)], .agg [.lit (.int .u8 0), .lit (.int .u8 0)], .agg [.lit (.int .u8 0), .lit (.int .u8 0)], .agg [.lit (.int .u8 0), .lit (.int .u8 0)], .agg [.lit (.int .u8 0), .lit (.int .u8 0)], .agg [.lit (.int .u8 0), .lit (.int .u8 0)], .agg [.lit (.int .u8 0), .lit (.int .u8 0)], .agg [.lit (.int .u8 0), .lit (.int .u8 0)], .agg [.lit (.int .u8 0), .lit (.int .u8 0)], .agg [.lit (.int .u8 0), .lit (.int .u8 0)], .agg [.lit (.int .u8 0), .lit (.int .u8 0)]]
/-- One of Go's own tables, pinned by name: the form's constant. -/
def laid_unicode_utf8_first : DataW Unit := Go.Pinned.utf8First
def laid_example_com_grant_grant_schema_ErrNotAllowed {H : Type} : DataW H := .iface "*errors.errorString" (.ptr (.agg [.lit (.string [110, 111, 116, 32, 97, 108, 108, 111, 119, 101, 100, 32, 98, 121, 32, 116, 104, 101, 32, 115, 99, 104, 101, 109, 97])]))

/-- 'zzlaws_schema_b1.FnTakeReadsLexedTextInOrder': WHATEVER THE INPUT: true; the input reads as it did. -/
def fnTakeReadsLexedTextInOrderSpec : ChangeSpec := { name := "fnTakeReadsLexedTextInOrder", fn := fun _ => fun
  | [d] => { results := [.lit (.bool true)], args := [d] }
  | _ => none }
def fnTakeReadsLexedTextInOrderRow : OpenClaim := { program := "qxb6613654afmt", sum := "9c7a8d7172212842426d35fb837946f253fc66b62c3edbd24aefc08b5c00413c", func := "example.com/grant/grant/zzlaws_schema_b1.FnTakeReadsLexedTextInOrder", spec := "fnTakeReadsLexedTextInOrder", stops := ["fmt.errorf, its operands' methods called", "fmt.Sprintf, its operands' methods called"], inPlace := ["internal/bytealg.IndexByteString", "internal/bytealg.IndexString", "fmt.Sprintf", "internal/bytealg.CountString"], unfollowed := true, recurses := true, named := ["internal/bytealg.MaxLen", "unicode/utf8.first", "unicode/utf8.acceptRanges"], apart := false, laid := [("unicode/utf8.acceptRanges", laid_unicode_utf8_acceptRanges), ("unicode/utf8.first", laid_unicode_utf8_first)] }
/-- NO THEOREM (fmt's text is open here; it may be false): for the released tool's asking of the row's closed facts alone. THE STATEMENT IS 'FnTakeReadsLexedTextInOrderToldSaid' (Qxb6613654aFmtCards.lean). -/
def FnTakeReadsLexedTextInOrderFormAsk : Prop := fnTakeReadsLexedTextInOrderRow.holds Tryf.pinned (OpenSpec.ofChange fnTakeReadsLexedTextInOrderSpec)

/-- ITS FALSE NEIGHBOUR: 'it returns false'. Refute it at one input. -/
def fnTakeReadsLexedTextInOrderWrong : ChangeSpec := { name := "fnTakeReadsLexedTextInOrder", fn := fun _ => fun
  | [d] => { results := [.lit (.bool false)], args := [d] }
  | _ => none }
def FnTakeReadsLexedTextInOrderWrongFormAsk : Prop := fnTakeReadsLexedTextInOrderRow.holds Tryf.pinned (OpenSpec.ofChange fnTakeReadsLexedTextInOrderWrong)

/-- 'zzlaws_schema_b1.FnDefinitionsListsEveryTypeOnceByName': WHATEVER THE INPUT: true; the input reads as it did. -/
def fnDefinitionsListsEveryTypeOnceByNameSpec : ChangeSpec := { name := "fnDefinitionsListsEveryTypeOnceByName", vars := ["example.com/grant/grant/schema.ErrNotAllowed"], fn := fun _ => fun
  | [d1, d2, g1] => { results := [.lit (.bool true)], args := [d1, d2], vars := [g1] }
  | _ => none }
def fnDefinitionsListsEveryTypeOnceByNameRow : OpenClaim := { program := "qxb6613654afmt", sum := "9c7a8d7172212842426d35fb837946f253fc66b62c3edbd24aefc08b5c00413c", func := "example.com/grant/grant/zzlaws_schema_b1.FnDefinitionsListsEveryTypeOnceByName", spec := "fnDefinitionsListsEveryTypeOnceByName", stops := ["fmt.errorf, its operands' methods called", "fmt.Sprintf, its operands' methods called"], inPlace := ["internal/bytealg.abigen_runtime_cmpstring", "fmt.errorf"], unfollowed := true, recurses := true, named := ["example.com/grant/grant/schema.ErrNotAllowed"], ifaces := true, apart := false, laid := [("example.com/grant/grant/schema.ErrNotAllowed", laid_example_com_grant_grant_schema_ErrNotAllowed)] }
/-- NO THEOREM (fmt's text is open here; it may be false): for the released tool's asking of the row's closed facts alone. THE STATEMENT IS 'FnDefinitionsListsEveryTypeOnceByNameToldSaid' (Qxb6613654aFmtCards.lean). -/
def FnDefinitionsListsEveryTypeOnceByNameFormAsk : Prop := fnDefinitionsListsEveryTypeOnceByNameRow.holds Tryf.pinned (OpenSpec.ofChange fnDefinitionsListsEveryTypeOnceByNameSpec)

/-- ITS FALSE NEIGHBOUR: 'it returns false'. Refute it at one input. -/
def fnDefinitionsListsEveryTypeOnceByNameWrong : ChangeSpec := { name := "fnDefinitionsListsEveryTypeOnceByName", vars := ["example.com/grant/grant/schema.ErrNotAllowed"], fn := fun _ => fun
  | [d1, d2, g1] => { results := [.lit (.bool false)], args := [d1, d2], vars := [g1] }
  | _ => none }
def FnDefinitionsListsEveryTypeOnceByNameWrongFormAsk : Prop := fnDefinitionsListsEveryTypeOnceByNameRow.holds Tryf.pinned (OpenSpec.ofChange fnDefinitionsListsEveryTypeOnceByNameWrong)

end Rows
end Go.Proofs.Qxb6613654aFmt
