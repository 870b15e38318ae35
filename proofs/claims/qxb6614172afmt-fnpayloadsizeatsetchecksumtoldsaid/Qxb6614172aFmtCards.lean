/-
  DERIVED. GIVEN WITH THE SEED: THE CARDS: each row of Qxb6614172aFmtRows.lean that lists a variable, with what it lists TIED to the program's text (the seventh form; the later family's looks); each row that meets fmt, with fmt's text TOLD by the authors' own Lean function (tested against real Go, not proved from fmt's source: count such statements apart). THE CARD IS WHAT COUNTS. Prove the row's statement (the work); the ties are given (Qxb6614172aFmtTie.lean); close each card by the builder's one call (the guide's Derived/Test/ToyasCard.lean, 'card_holds'). Laid BY PROGRAM, IN A SANDBOX (cutbox-door.mjs). By AI agents, Wed Nov 11 2026. No macro, syntax, notation, axiom, sorry.
-/
import Derived.Test.Qxb6614172aFmtRows
import GoSem.ClaimSeven
namespace Go.Proofs.Qxb6614172aFmt
namespace Rows

/-- THE TOLD CARD OF 'zzlaws_internal_zfs_b1.FnPayloadSizeAtSetChecksum'. -/
def fnPayloadSizeAtSetChecksumCard : Claim7 := { stood := { row := fnPayloadSizeAtSetChecksumRow, standIns := [], harness := (true, "be5c2d2f164ea6f8bb48e93bb3759ae1c879b72514ab33896d0e040c47dc79d9"), looks := false }, told := true, goes := false }
def FnPayloadSizeAtSetChecksumToldSaid : Prop := Claim7.holds Tryf.pinned (.plain (OpenSpec.ofChange fnPayloadSizeAtSetChecksumSpec)) fnPayloadSizeAtSetChecksumCard
/-- ITS FALSE NEIGHBOUR. Refute it at one input. -/
def FnPayloadSizeAtSetChecksumToldWrongFalsely : Prop := Claim7.holds Tryf.pinned (.plain (OpenSpec.ofChange fnPayloadSizeAtSetChecksumWrong)) fnPayloadSizeAtSetChecksumCard
end Rows
end Go.Proofs.Qxb6614172aFmt
