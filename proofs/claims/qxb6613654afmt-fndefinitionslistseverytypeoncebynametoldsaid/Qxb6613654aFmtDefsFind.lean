/-
  By the prover: THE WALK of (*Schema).Definition: the definition, or an error that is not nil.
-/
import Derived.Test.Qxb6613654aFmtDefsErr
import Derived.WalkLawsBesides
namespace Go.Proofs.Qxb6613654aFmt.Defs
open Go.RowKit Go.Extern.Stop Go.Stop Go.Extern

set_option maxHeartbeats 800000 in
theorem definition_found (sb f : Nat) (mo : Option Nat) (s : ByteArray) (w : World) (hm : w.cell? ⟨sb, 1, none⟩ = some (.map mo))
    (hl : (Instr.lookup 39 (.map mo) (.string s) false).run Tryf.prog w = .ok (.pointer (some ⟨f, 0, none⟩)) w) :
    Calls Tryf.prog 16 #[.pointer (some ⟨sb, 0, none⟩), .string s] w fun e w' => e = .returned (.tuple #[.pointer (some ⟨f, 0, none⟩), .nilIface]) ∧ w' = w := by
  go_enter Tryf.func16, Tryf.ntmps16
  go_wp2
  go_ret2
  exact ⟨rfl, rfl⟩

set_option maxHeartbeats 800000 in
theorem definition_none (F : Interp) (sb : Nat) (mo : Option Nat) (s t : ByteArray) (a : Addr) (w : World) (hF : F.answers w.tape) (hm : w.cell? ⟨sb, 1, none⟩ = some (.map mo))
    (hl : (Instr.lookup 39 (.map mo) (.string s) false).run Tryf.prog w = .ok (.pointer none) w)
    (hg : w.cell? ⟨0, 0, none⟩ = some (.iface 114 (.pointer (some a)))) (ht : w.cell? a = some (.string t)) :
    Calls Tryf.prog 16 #[.pointer (some ⟨sb, 0, none⟩), .string s] w fun e w' => (∃ b, e = .returned (.tuple #[.pointer none, .iface 97 (.pointer (some ⟨b, 0, none⟩))])) ∧ Below w.heap.size w w' := by
  have hb0 : Below w.heap.size w (w.alloc (.cells #[.iface 114 (.pointer (some a)), .iface 9 (.string s)] 20)) := (Below.refl _ w).alloc (Nat.le_refl _) _
  have hc := heap_alloc_new w (.cells #[.iface 114 (.pointer (some a)), .iface 9 (.string s)] 20)
  have he := errorf_any F s t a w.heap.size (w.alloc (.cells #[.iface 114 (.pointer (some a)), .iface 9 (.string s)] 20)) hF (by simp only [World.cell?, hc]; rfl) (by simp only [World.cell?, hc]; rfl) (cell_later hb0 ht)
  clear hc
  go_enter Tryf.func16, Tryf.ntmps16
  go_wp2_with (go_at_call 25; refine he.mono ?_; rintro e w2 ⟨rfl, hb2⟩)
  go_ret2
  exact ⟨⟨_, rfl⟩, hb0.trans (hb2.mono (by simp))⟩
end Go.Proofs.Qxb6613654aFmt.Defs
