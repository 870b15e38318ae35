/-
  No cell of these rows narrows 'for every input' (looked for: loops, veiled, ifaces, maps, wideKeys, modest, calm, conditions, laid).
  DERIVED. THE GIVEN ROWS OF THIS SEAT. 2 by the template 'for every input the law returns true; each argument reads behind the call as it read before'; 0 by the template 'total and deterministic' (their statements: Qxb6614156aTotals.lean).
  GIVEN WITH THE SEED: the statements are not yours to turn. If you find one false, say at which input.
  Laid BY PROGRAM, IN A SANDBOX (cutbox-rows.mjs): the forced cells as the released guide's own fill.sh prints them over the translation 0f2fc73c3d6a99b1… (all of the seat's roots in one cut). By AI agents, Wed Nov 11 2026. No macro, syntax, notation, axiom, sorry.
-/
import Derived.Test.Qxb6614156aChecked
import GoSem.Claim
import GoSem.ClaimJoined
import GoSem.ClaimMapViews
import Derived.JoinedTies
import Derived.KernelRfl
namespace Go.Proofs.Qxb6614156a
/- THE CELL 'sum', in the pinned program and in every row, IS THE sha256 OF THE DUMP (.gsa) THAT Qxb6614156aProg.lean LOADS. Nothing in Lean hashes anything: it is a label: what it is worth is what the hold of that sum in a sandbox is worth. -/
noncomputable def Try.pinned : Pinned := { name := "qxb6614156a", sum := "0f2fc73c3d6a99b1207f2c261db41286403d47964e9971376d0b1a91a7ed9792", checked := Try.checked }
namespace Rows
def none {H : Type} : Left H := { results := [], args := [] }

/-- 'zzlaws_root_b1.FnNameTableHomeStepsToTheNextSlot': WHATEVER THE INPUT: true; the input reads as it did. -/
def fnNameTableHomeStepsToTheNextSlotSpec : ChangeSpec := { name := "fnNameTableHomeStepsToTheNextSlot", fn := fun _ => fun
  | [d1, d2] => { results := [.lit (.bool true)], args := [d1, d2] }
  | _ => none }
def fnNameTableHomeStepsToTheNextSlotRow : OpenClaim := { program := "qxb6614156a", sum := "0f2fc73c3d6a99b1207f2c261db41286403d47964e9971376d0b1a91a7ed9792", func := "example.com/armslength/armslength/zzlaws_root_b1.FnNameTableHomeStepsToTheNextSlot", spec := "fnNameTableHomeStepsToTheNextSlot", apart := false }
def FnNameTableHomeStepsToTheNextSlotSaid : Prop := fnNameTableHomeStepsToTheNextSlotRow.holds Try.pinned (OpenSpec.ofChange fnNameTableHomeStepsToTheNextSlotSpec)

/-- ITS FALSE NEIGHBOUR: 'it returns false'. Refute it at one input. -/
def fnNameTableHomeStepsToTheNextSlotWrong : ChangeSpec := { name := "fnNameTableHomeStepsToTheNextSlot", fn := fun _ => fun
  | [d1, d2] => { results := [.lit (.bool false)], args := [d1, d2] }
  | _ => none }
def FnNameTableHomeStepsToTheNextSlotWrongFalsely : Prop := fnNameTableHomeStepsToTheNextSlotRow.holds Try.pinned (OpenSpec.ofChange fnNameTableHomeStepsToTheNextSlotWrong)

/-- 'zzlaws_root_b1.FnNameTableHomeSplitsWhenTheTableGrows': WHATEVER THE INPUT: true; the input reads as it did. -/
def fnNameTableHomeSplitsWhenTheTableGrowsSpec : ChangeSpec := { name := "fnNameTableHomeSplitsWhenTheTableGrows", fn := fun _ => fun
  | [d1, d2] => { results := [.lit (.bool true)], args := [d1, d2] }
  | _ => none }
def fnNameTableHomeSplitsWhenTheTableGrowsRow : OpenClaim := { program := "qxb6614156a", sum := "0f2fc73c3d6a99b1207f2c261db41286403d47964e9971376d0b1a91a7ed9792", func := "example.com/armslength/armslength/zzlaws_root_b1.FnNameTableHomeSplitsWhenTheTableGrows", spec := "fnNameTableHomeSplitsWhenTheTableGrows", apart := false }
def FnNameTableHomeSplitsWhenTheTableGrowsSaid : Prop := fnNameTableHomeSplitsWhenTheTableGrowsRow.holds Try.pinned (OpenSpec.ofChange fnNameTableHomeSplitsWhenTheTableGrowsSpec)

/-- ITS FALSE NEIGHBOUR: 'it returns false'. Refute it at one input. -/
def fnNameTableHomeSplitsWhenTheTableGrowsWrong : ChangeSpec := { name := "fnNameTableHomeSplitsWhenTheTableGrows", fn := fun _ => fun
  | [d1, d2] => { results := [.lit (.bool false)], args := [d1, d2] }
  | _ => none }
def FnNameTableHomeSplitsWhenTheTableGrowsWrongFalsely : Prop := fnNameTableHomeSplitsWhenTheTableGrowsRow.holds Try.pinned (OpenSpec.ofChange fnNameTableHomeSplitsWhenTheTableGrowsWrong)

end Rows
end Go.Proofs.Qxb6614156a
