/-
  By the prover: fmt's stop at the one format of the road ('%w: type %s is not defined'): fmt.Errorf gives an error that is not nil, whatever text fmt gives.
-/
import Derived.Test.Qxb6613654aFmtDefsIn
import Derived.Stop.CallBack
import Derived.Stop.IfaceNil
import GoSem.ClaimData
namespace Go.Proofs.Qxb6613654aFmt.Defs
open Go.RowKit Go.Extern.Stop Go.Stop Go.Extern

theorem call38 (args : Array Value) (w : World) : (callFunc 38 args).run Tryf.prog w = (FmtCalls.errorf #[9, 95] #[26] args).run Tryf.prog w :=
  run_callFunc_next Tryf.func38 (by kernel_rfl) (by kernel_rfl) (by kernel_rfl) args w
theorem guardF (name : String) (w : World) : (FmtStop.guard name).run Tryf.prog w = .ok () w := by kernel_rfl
theorem nextTurns : Extern.next FmtCalls.turnsRow = some (FmtCalls.begun #[] #[]) := by kernel_rfl
theorem fmt_r (w : World) : (FmtDoors.printed ⟨#[37, 119, 58, 32, 116, 121, 112, 101, 32, 37, 115, 32, 105, 115, 32, 110, 111, 116, 32, 100, 101, 102, 105, 110, 101, 100]⟩ 2).run Tryf.prog w = .ok [(0, 119, false), (1, 115, false)] w := by kernel_rfl
theorem fmt_p : FmtStop.printed? ⟨#[37, 119, 58, 32, 116, 121, 112, 101, 32, 37, 115, 32, 105, 115, 32, 110, 111, 116, 32, 100, 101, 102, 105, 110, 101, 100]⟩ 2 = some [(0, 119, false), (1, 115, false)] := by kernel_rfl
def shape9 : List UInt8 := [12, 6, 0, 0, 0, 0, 0, 0, 0, 115, 116, 114, 105, 110, 103]
theorem act9 (name : String) (x : Value) (w : World) : (FmtCalls.act name true 115 false (.iface 9 x)).run Tryf.prog w = .ok (.closed true) w := by kernel_rfl
theorem op9 (name : String) (x : ByteArray) (w : World) : (FmtStop.operand name true 115 false (.iface 9 (.string x))).run Tryf.prog w = .ok (shape9, FmtStop.pack x.data.toList) w := by kernel_rfl
theorem str9 (w : World) : (typeStr 9).run Tryf.prog w = .ok "string" w := by kernel_rfl
theorem act114 (name : String) (x : Value) (w : World) : (FmtCalls.act name true 119 false (.iface 114 x)).run Tryf.prog w = .ok (.closed true) w := by kernel_rfl
theorem str114 (w : World) : (typeStr 114).run Tryf.prog w = .ok "*errors.errorString" w := by kernel_rfl
def plain114 : List UInt8 := 14 :: FmtStop.pack "*errors.errorString".toUTF8.data.toList
theorem op114 (name : String) (a : Addr) (s : ByteArray) (w : World) (hc : w.cell? a = some (.string s)) :
    (FmtStop.operand name true 119 false (.iface 114 (.pointer (some a)))).run Tryf.prog w = .ok (plain114, s.data.toList) w := by
  have h1 : (typeStr 114).run Tryf.prog w = .ok "*errors.errorString" w := by kernel_rfl
  have d2 : Tryf.t114.desc = .pointer 116 := rfl
  have d3 : Tryf.t116.desc = .named "errors.errorString" 115 := rfl
  simp [FmtStop.operand, h1, d2, d3, run_load, hc, plain114]
theorem ptr97 (w : World) : (FmtStop.ptrTo "fmt.wrapError").run Tryf.prog w = .ok 97 w := by kernel_rfl
theorem elem97 (w : World) : (elemOf 97).run Tryf.prog w = .ok 153 w := by kernel_rfl
theorem isError97 (w : World) : (FmtDoors.textMethod 97 "Error").run Tryf.prog w = .ok true w := by kernel_rfl
theorem ptr114 (w : World) : (FmtStop.ptrTo "errors.errorString").run Tryf.prog w = .ok 114 w := by kernel_rfl
theorem elem114 (w : World) : (elemOf 114).run Tryf.prog w = .ok 116 w := by kernel_rfl
theorem isError114 (w : World) : (FmtDoors.textMethod 114 "Error").run Tryf.prog w = .ok true w := by kernel_rfl

set_option maxHeartbeats 800000 in
theorem errorf_any (F : Interp) (s t : ByteArray) (a : Addr) (blk : Nat) (w : World) (hF : F.answers w.tape)
    (hc0 : w.cell? ⟨blk, 0, none⟩ = some (.iface 114 (.pointer (some a)))) (hc1 : w.cell? ⟨blk, 1, none⟩ = some (.iface 9 (.string s))) (hs : w.cell? a = some (.string t)) :
    Calls Tryf.prog 25 #[.string ⟨#[37, 119, 58, 32, 116, 121, 112, 101, 32, 37, 115, 32, 105, 115, 32, 110, 111, 116, 32, 100, 101, 102, 105, 110, 101, 100]⟩, .slice (some ⟨blk, 0, none⟩) 2 2] w fun e w' =>
      e = .returned (.iface 97 (.pointer (some ⟨w.heap.size, 0, none⟩))) ∧ Below w.heap.size w w' := by
  have hF' := answers_open hF
  have hop := op114 "fmt.errorf" a t w hs
  have h1 := call38
  have h2 := guardF
  have h3 := fmt_r
  have h4 := fmt_p
  have h5 := act9
  have h6 := op9
  have h7 := act114
  have h8 := ptr97
  have h9 := elem97
  have h10 := isError97
  have h11 := ptr114
  have h12 := elem114
  have h13 := isError114
  have h14 := str9
  have h15 := str114
  go_enter Tryf.func25, Tryf.ntmps25
  go_wp2
  apply rows_value nextTurns
  case hr =>
    go_simp
    exact ⟨rfl, rfl⟩
  case h =>
    go_wp2
    go_ret
    exact ⟨rfl, ((Below.refl _ _).alloc (Nat.le_refl _) _).drew⟩
end Go.Proofs.Qxb6613654aFmt.Defs
