/-
  By the prover: fmt's stop at the two formats that 'refuse' is called with, and refuse: an error that is not nil, whatever text fmt gives.
-/
import Derived.Test.Qxb6614172aFmtPosRec
import Derived.Stop.CallBack
import Derived.Stop.IfaceNil
import GoSem.ClaimData
namespace Go.Proofs.Qxb6614172aFmt.Pos
open Go.RowKit Go.Deep Go.Extern.Stop Go.Stop Go.Extern

theorem call16 (args : Array Value) (w : World) : (callFunc 16 args).run Tryf.prog w = (FmtCalls.sprintf #[9, 52] #[9] args).run Tryf.prog w :=
  run_callFunc_next Tryf.func16 (by kernel_rfl) (by kernel_rfl) (by kernel_rfl) args w
theorem guardF (name : String) (w : World) : (FmtStop.guard name).run Tryf.prog w = .ok () w := by kernel_rfl
theorem nextTurns : Extern.next FmtCalls.turnsRow = some (FmtCalls.begun #[] #[]) := by kernel_rfl
theorem fmtA_r (w : World) : (FmtDoors.printed ⟨#[97, 32, 115, 116, 114, 101, 97, 109, 32, 105, 110, 32, 105, 116, 32, 98, 101, 103, 105, 110, 115, 32, 105, 110, 115, 105, 100, 101, 32, 97, 110, 111, 116, 104, 101, 114]⟩ 0).run Tryf.prog w = .ok [] w := by kernel_rfl
theorem fmtA_p : FmtStop.printed? ⟨#[97, 32, 115, 116, 114, 101, 97, 109, 32, 105, 110, 32, 105, 116, 32, 98, 101, 103, 105, 110, 115, 32, 105, 110, 115, 105, 100, 101, 32, 97, 110, 111, 116, 104, 101, 114]⟩ 0 = some [] := by kernel_rfl
theorem fmtB_r (w : World) : (FmtDoors.printed ⟨#[105, 116, 32, 104, 97, 115, 32, 97, 32, 114, 101, 99, 111, 114, 100, 32, 111, 102, 32, 116, 121, 112, 101, 32, 37, 100, 44, 32, 119, 104, 105, 99, 104, 32, 84, 105, 100, 101, 109, 97, 114, 107, 32, 100, 111, 101, 115, 32, 110, 111, 116, 32, 107, 110, 111, 119]⟩ 1).run Tryf.prog w = .ok [(0, 100, false)] w := by kernel_rfl
theorem fmtB_p : FmtStop.printed? ⟨#[105, 116, 32, 104, 97, 115, 32, 97, 32, 114, 101, 99, 111, 114, 100, 32, 111, 102, 32, 116, 121, 112, 101, 32, 37, 100, 44, 32, 119, 104, 105, 99, 104, 32, 84, 105, 100, 101, 109, 97, 114, 107, 32, 100, 111, 101, 115, 32, 110, 111, 116, 32, 107, 110, 111, 119]⟩ 1 = some [(0, 100, false)] := by kernel_rfl
theorem act23 (name : String) (x : Value) (w : World) : (FmtCalls.act name false 100 false (.iface 23 x)).run Tryf.prog w = .ok (.closed false) w := by kernel_rfl
theorem str23 (w : World) : (typeStr 23).run Tryf.prog w = .ok "uint64" w := by kernel_rfl
def shape23 : List UInt8 := [9, 6, 0, 0, 0, 0, 0, 0, 0, 117, 105, 110, 116, 54, 52]

theorem op23 (name : String) (x : Int) (w : World) : (FmtStop.operand name false 100 false (.iface 23 (.int .u64 x))).run Tryf.prog w = .ok (shape23, Go.Extern.Stop.digits 8 (x % 2 ^ 64).toNat) w := by kernel_rfl

set_option maxHeartbeats 800000 in
theorem refuseA (F : Interp) (w : World) (hF : F.answers w.tape) :
    Calls Tryf.prog 15 #[.string ⟨#[97, 32, 115, 116, 114, 101, 97, 109, 32, 105, 110, 32, 105, 116, 32, 98, 101, 103, 105, 110, 115, 32, 105, 110, 115, 105, 100, 101, 32, 97, 110, 111, 116, 104, 101, 114]⟩, .slice none 0 0] w fun e w' =>
      (∃ b, e = .returned (.iface 53 (.pointer (some ⟨b, 0, none⟩)))) ∧ Below w.heap.size w w' := by
  have hF' := answers_open hF
  have h1 := call16
  have h2 := guardF
  have h3 := fmtA_r
  have h4 := fmtA_p
  go_enter Tryf.func15, Tryf.ntmps15
  go_wp2
  apply rows_value nextTurns
  case hr =>
    go_simp
    exact ⟨rfl, rfl⟩
  case h =>
    go_wp2
    go_ret
    exact ⟨⟨_, rfl⟩, ((Below.refl _ _).alloc (Nat.le_refl _) _).drew⟩

set_option maxHeartbeats 800000 in
theorem refuseB (F : Interp) (g : Nat) (x : Int) (w : World) (hF : F.answers w.tape) (hc : w.cell? ⟨g, 0, none⟩ = some (.iface 23 (.int .u64 x))) :
    Calls Tryf.prog 15 #[.string ⟨#[105, 116, 32, 104, 97, 115, 32, 97, 32, 114, 101, 99, 111, 114, 100, 32, 111, 102, 32, 116, 121, 112, 101, 32, 37, 100, 44, 32, 119, 104, 105, 99, 104, 32, 84, 105, 100, 101, 109, 97, 114, 107, 32, 100, 111, 101, 115, 32, 110, 111, 116, 32, 107, 110, 111, 119]⟩, .slice (some ⟨g, 0, none⟩) 1 1] w fun e w' =>
      (∃ b, e = .returned (.iface 53 (.pointer (some ⟨b, 0, none⟩)))) ∧ Below w.heap.size w w' := by
  have hF' := answers_open hF
  have h1 := call16
  have h2 := guardF
  have h3 := fmtB_r
  have h4 := fmtB_p
  have h5 := act23
  have h6 := op23
  go_enter Tryf.func15, Tryf.ntmps15
  go_wp2
  apply rows_value nextTurns
  case hr =>
    go_simp
    exact ⟨rfl, rfl⟩
  case h =>
    go_wp2
    go_ret
    exact ⟨⟨_, rfl⟩, ((Below.refl _ _).alloc (Nat.le_refl _) _).drew⟩
end Go.Proofs.Qxb6614172aFmt.Pos
