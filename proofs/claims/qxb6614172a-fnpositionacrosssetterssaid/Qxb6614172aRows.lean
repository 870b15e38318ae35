/-
  No cell of these rows narrows 'for every input' (looked for: loops, veiled, ifaces, maps, wideKeys, modest, calm, conditions, laid).
  DERIVED. THE GIVEN ROWS OF THIS SEAT. 4 by the template 'for every input the law returns true; each argument reads behind the call as it read before'; 0 by the template 'total and deterministic' (their statements: Qxb6614172aTotals.lean).
  GIVEN WITH THE SEED: the statements are not yours to turn. If you find one false, say at which input.
  Laid BY PROGRAM, IN A SANDBOX (cutbox-rows.mjs): the forced cells as the released guide's own fill.sh prints them over the translation 36f55223e1769bb3… (all of the seat's roots in one cut). By AI agents, Wed Nov 11 2026. No macro, syntax, notation, axiom, sorry.
-/
import Derived.Test.Qxb6614172aChecked
import GoSem.Claim
import GoSem.ClaimJoined
import GoSem.ClaimMapViews
import Derived.JoinedTies
import Derived.KernelRfl
namespace Go.Proofs.Qxb6614172a
/- THE CELL 'sum', in the pinned program and in every row, IS THE sha256 OF THE DUMP (.gsa) THAT Qxb6614172aProg.lean LOADS. Nothing in Lean hashes anything: it is a label: what it is worth is what the hold of that sum in a sandbox is worth. -/
noncomputable def Try.pinned : Pinned := { name := "qxb6614172a", sum := "36f55223e1769bb3f8fe3e7412977c28c03687c962d34eba93031dc6c0ee83d9", checked := Try.checked }
namespace Rows
def none {H : Type} : Left H := { results := [], args := [] }

/-- 'zzlaws_internal_zfs_b1.FnToNameFirstNulFieldKeptBySetters': WHATEVER THE INPUT: true; the input reads as it did. -/
def fnToNameFirstNulFieldKeptBySettersSpec : ChangeSpec := { name := "fnToNameFirstNulFieldKeptBySetters", fn := fun _ => fun
  | [d1, d2, d3, d4, d5] => { results := [.lit (.bool true)], args := [d1, d2, d3, d4, d5] }
  | _ => none }
def fnToNameFirstNulFieldKeptBySettersRow : OpenClaim := { program := "qxb6614172a", sum := "36f55223e1769bb3f8fe3e7412977c28c03687c962d34eba93031dc6c0ee83d9", func := "example.com/tidemark/tidemark/zzlaws_internal_zfs_b1.FnToNameFirstNulFieldKeptBySetters", spec := "fnToNameFirstNulFieldKeptBySetters", inPlace := ["internal/bytealg.IndexByteString", "internal/bytealg.IndexString"], unfollowed := true, recurses := true, named := ["encoding/binary.BigEndian", "encoding/binary.LittleEndian", "internal/bytealg.MaxLen"], apart := false }
def FnToNameFirstNulFieldKeptBySettersSaid : Prop := fnToNameFirstNulFieldKeptBySettersRow.holds Try.pinned (OpenSpec.ofChange fnToNameFirstNulFieldKeptBySettersSpec)

/-- ITS FALSE NEIGHBOUR: 'it returns false'. Refute it at one input. -/
def fnToNameFirstNulFieldKeptBySettersWrong : ChangeSpec := { name := "fnToNameFirstNulFieldKeptBySetters", fn := fun _ => fun
  | [d1, d2, d3, d4, d5] => { results := [.lit (.bool false)], args := [d1, d2, d3, d4, d5] }
  | _ => none }
def FnToNameFirstNulFieldKeptBySettersWrongFalsely : Prop := fnToNameFirstNulFieldKeptBySettersRow.holds Try.pinned (OpenSpec.ofChange fnToNameFirstNulFieldKeptBySettersWrong)

/-- 'zzlaws_internal_zfs_b1.FnToNameCutAtPutNul': WHATEVER THE INPUT: true; the input reads as it did. -/
def fnToNameCutAtPutNulSpec : ChangeSpec := { name := "fnToNameCutAtPutNul", fn := fun _ => fun
  | [d1, d2, d3] => { results := [.lit (.bool true)], args := [d1, d2, d3] }
  | _ => none }
def fnToNameCutAtPutNulRow : OpenClaim := { program := "qxb6614172a", sum := "36f55223e1769bb3f8fe3e7412977c28c03687c962d34eba93031dc6c0ee83d9", func := "example.com/tidemark/tidemark/zzlaws_internal_zfs_b1.FnToNameCutAtPutNul", spec := "fnToNameCutAtPutNul", inPlace := ["internal/bytealg.IndexByteString", "internal/bytealg.IndexString"], named := ["encoding/binary.BigEndian", "encoding/binary.LittleEndian", "internal/bytealg.MaxLen"], apart := false }
def FnToNameCutAtPutNulSaid : Prop := fnToNameCutAtPutNulRow.holds Try.pinned (OpenSpec.ofChange fnToNameCutAtPutNulSpec)

/-- ITS FALSE NEIGHBOUR: 'it returns false'. Refute it at one input. -/
def fnToNameCutAtPutNulWrong : ChangeSpec := { name := "fnToNameCutAtPutNul", fn := fun _ => fun
  | [d1, d2, d3] => { results := [.lit (.bool false)], args := [d1, d2, d3] }
  | _ => none }
def FnToNameCutAtPutNulWrongFalsely : Prop := fnToNameCutAtPutNulRow.holds Try.pinned (OpenSpec.ofChange fnToNameCutAtPutNulWrong)

/-- 'zzlaws_internal_zfs_b1.FnPositionAtSetChecksum': WHATEVER THE INPUT: true; the input reads as it did. -/
def fnPositionAtSetChecksumSpec : ChangeSpec := { name := "fnPositionAtSetChecksum", fn := fun _ => fun
  | [d1, d2, d3] => { results := [.lit (.bool true)], args := [d1, d2, d3] }
  | _ => none }
def fnPositionAtSetChecksumRow : OpenClaim := { program := "qxb6614172a", sum := "36f55223e1769bb3f8fe3e7412977c28c03687c962d34eba93031dc6c0ee83d9", func := "example.com/tidemark/tidemark/zzlaws_internal_zfs_b1.FnPositionAtSetChecksum", spec := "fnPositionAtSetChecksum", unfollowed := true, recurses := true, named := ["encoding/binary.BigEndian", "encoding/binary.LittleEndian"], apart := false }
def FnPositionAtSetChecksumSaid : Prop := fnPositionAtSetChecksumRow.holds Try.pinned (OpenSpec.ofChange fnPositionAtSetChecksumSpec)

/-- ITS FALSE NEIGHBOUR: 'it returns false'. Refute it at one input. -/
def fnPositionAtSetChecksumWrong : ChangeSpec := { name := "fnPositionAtSetChecksum", fn := fun _ => fun
  | [d1, d2, d3] => { results := [.lit (.bool false)], args := [d1, d2, d3] }
  | _ => none }
def FnPositionAtSetChecksumWrongFalsely : Prop := fnPositionAtSetChecksumRow.holds Try.pinned (OpenSpec.ofChange fnPositionAtSetChecksumWrong)

/-- 'zzlaws_internal_zfs_b1.FnPositionAcrossSetters': WHATEVER THE INPUT: true; the input reads as it did. -/
def fnPositionAcrossSettersSpec : ChangeSpec := { name := "fnPositionAcrossSetters", fn := fun _ => fun
  | [d1, d2, d3, d4] => { results := [.lit (.bool true)], args := [d1, d2, d3, d4] }
  | _ => none }
def fnPositionAcrossSettersRow : OpenClaim := { program := "qxb6614172a", sum := "36f55223e1769bb3f8fe3e7412977c28c03687c962d34eba93031dc6c0ee83d9", func := "example.com/tidemark/tidemark/zzlaws_internal_zfs_b1.FnPositionAcrossSetters", spec := "fnPositionAcrossSetters", unfollowed := true, recurses := true, named := ["encoding/binary.BigEndian", "encoding/binary.LittleEndian"], apart := false }
def FnPositionAcrossSettersSaid : Prop := fnPositionAcrossSettersRow.holds Try.pinned (OpenSpec.ofChange fnPositionAcrossSettersSpec)

/-- ITS FALSE NEIGHBOUR: 'it returns false'. Refute it at one input. -/
def fnPositionAcrossSettersWrong : ChangeSpec := { name := "fnPositionAcrossSetters", fn := fun _ => fun
  | [d1, d2, d3, d4] => { results := [.lit (.bool false)], args := [d1, d2, d3, d4] }
  | _ => none }
def FnPositionAcrossSettersWrongFalsely : Prop := fnPositionAcrossSettersRow.holds Try.pinned (OpenSpec.ofChange fnPositionAcrossSettersWrong)

end Rows
end Go.Proofs.Qxb6614172a
