/-
  No cell of these rows narrows 'for every input' (looked for: loops, veiled, ifaces, maps, wideKeys, modest, calm, conditions, laid).
  DERIVED. THE GIVEN ROWS OF THIS SEAT. 1 by the template 'for every input the law returns true; each argument reads behind the call as it read before'; 0 by the template 'total and deterministic' (their statements: Qxb6614172aFmtTotals.lean).
  GIVEN WITH THE SEED: the statements are not yours to turn. If you find one false, say at which input.
  Laid BY PROGRAM, IN A SANDBOX (cutbox-rows.mjs): the forced cells as the released guide's own fill.sh prints them over the translation 083ca3b38f46a507… (all of the seat's roots in one cut). By AI agents, Wed Nov 11 2026. No macro, syntax, notation, axiom, sorry.
-/
import Derived.Test.Qxb6614172aFmtChecked
import GoSem.Claim
import GoSem.ClaimJoined
import GoSem.ClaimMapViews
import Derived.JoinedTies
import Derived.KernelRfl
namespace Go.Proofs.Qxb6614172aFmt
/- THE CELL 'sum', in the pinned program and in every row, IS THE sha256 OF THE DUMP (.gsa) THAT Qxb6614172aFmtProg.lean LOADS. Nothing in Lean hashes anything: it is a label: what it is worth is what the hold of that sum in a sandbox is worth. -/
noncomputable def Tryf.pinned : Pinned := { name := "qxb6614172afmt", sum := "083ca3b38f46a5073b28e6fb281a43f0c536cffaf5dcec1e1787bacd12094922", checked := Tryf.checked }
namespace Rows
def none {H : Type} : Left H := { results := [], args := [] }

/-- 'zzlaws_internal_zfs_b1.FnPayloadSizeAtSetChecksum': WHATEVER THE INPUT: true; the input reads as it did. -/
def fnPayloadSizeAtSetChecksumSpec : ChangeSpec := { name := "fnPayloadSizeAtSetChecksum", fn := fun _ => fun
  | [d1, d2, d3] => { results := [.lit (.bool true)], args := [d1, d2, d3] }
  | _ => none }
def fnPayloadSizeAtSetChecksumRow : OpenClaim := { program := "qxb6614172afmt", sum := "083ca3b38f46a5073b28e6fb281a43f0c536cffaf5dcec1e1787bacd12094922", func := "example.com/tidemark/tidemark/zzlaws_internal_zfs_b1.FnPayloadSizeAtSetChecksum", spec := "fnPayloadSizeAtSetChecksum", stops := ["fmt.Sprintf, its operands' methods called"], inPlace := ["fmt.Sprintf"], unfollowed := true, recurses := true, named := ["encoding/binary.BigEndian", "encoding/binary.LittleEndian"], apart := false }
/-- NO THEOREM (fmt's text is open here; it may be false): for the released tool's asking of the row's closed facts alone. THE STATEMENT IS 'FnPayloadSizeAtSetChecksumToldSaid' (Qxb6614172aFmtCards.lean). -/
def FnPayloadSizeAtSetChecksumFormAsk : Prop := fnPayloadSizeAtSetChecksumRow.holds Tryf.pinned (OpenSpec.ofChange fnPayloadSizeAtSetChecksumSpec)

/-- ITS FALSE NEIGHBOUR: 'it returns false'. Refute it at one input. -/
def fnPayloadSizeAtSetChecksumWrong : ChangeSpec := { name := "fnPayloadSizeAtSetChecksum", fn := fun _ => fun
  | [d1, d2, d3] => { results := [.lit (.bool false)], args := [d1, d2, d3] }
  | _ => none }
def FnPayloadSizeAtSetChecksumWrongFormAsk : Prop := fnPayloadSizeAtSetChecksumRow.holds Tryf.pinned (OpenSpec.ofChange fnPayloadSizeAtSetChecksumWrong)

end Rows
end Go.Proofs.Qxb6614172aFmt
