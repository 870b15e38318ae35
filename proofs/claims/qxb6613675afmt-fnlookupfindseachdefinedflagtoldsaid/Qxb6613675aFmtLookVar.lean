/-
  By the prover: THE WALK of Var and StringVar.
-/
import Derived.Test.Qxb6613675aFmtLookAdd
namespace Go.Proofs.Qxb6613675aFmt.Look
open Go.RowKit Go.Deep

theorem string_any (nb i : Nat) (d : ByteArray) (w : World) (hc : w.cell? ⟨nb, i, none⟩ = some (.string d)) :
    Calls Tryf.prog 47 #[.pointer (some ⟨nb, i, none⟩)] w fun e w' => e = .returned (.string d) ∧ w' = w := by
  go_enter Tryf.func47, Tryf.ntmps47
  go_wp2
  go_ret
  exact ⟨rfl, rfl⟩

theorem m54 (a : Addr) (w : World) : (method 207 54 (.pointer (some a)) "String").run Tryf.prog w = .ok (47, .pointer (some a)) w := by kernel_rfl

set_option maxHeartbeats 1000000 in
theorem var_any (S D : Nat → ByteArray) (fs nb i : Nat) (fl : Nat → Nat) (B k : Nat) (us : ByteArray) (w : World) (hk : k < 1024) (hB : B ≤ fs) (hS : FS S D fs fl B k w) (hc : w.cell? ⟨nb, i, none⟩ = some (.string (D k)))
    (hne : ∀ i, i < k → (S i).toList ≠ (S k).toList) :
    Calls Tryf.prog 23 #[.pointer (some ⟨fs, 0, none⟩), .iface 54 (.pointer (some ⟨nb, i, none⟩)), .string (S k), .string us] w fun e w' => e = .returned (.tuple #[]) ∧ (∃ f, FS S D fs (fun i => if i = k then f else fl i) B (k + 1) w') ∧ Kept fs B w w' := by
  have hm := m54 ⟨nb, i, none⟩ w
  have HT := hide (string_any nb i (D k) w hc)
  have hfs : fs < w.heap.size := by obtain ⟨v, h1, _⟩ := hS.own; exact lt_of_blk h1
  have hb0 : Below w.heap.size w (w.alloc (Flag (S k) (D k) (.string us) (.iface 54 (.pointer (some ⟨nb, i, none⟩))))) := (Below.refl _ _).alloc (Nat.le_refl _) _
  have HA := hide (add_any S D fs w.heap.size fl B k (.string us) (.iface 54 (.pointer (some ⟨nb, i, none⟩))) (w.alloc (Flag (S k) (D k) (.string us) (.iface 54 (.pointer (some ⟨nb, i, none⟩))))) hk hB (hS.below hb0) (heap_alloc_new _ _) hne)
  have HK := hide (Kept.of_below (fs := fs) (Nat.le_trans hB (Nat.le_of_lt hfs)) hb0)
  clear hS hne hb0
  go_enter Tryf.func23, Tryf.ntmps23
  go_wp2_with (go_at_call 47; refine HT.out.mono ?_; rintro e w1 ⟨rfl, hw⟩; replace hw := hw.symm; subst hw)
  refine HA.out.mono ?_
  rintro e w1 ⟨rfl, hF1, hK1⟩
  have HF := hide (And.intro (HK.out.trans hK1) hF1)
  clear hF1 hK1 HA HT HK hm hc
  go_wp2
  go_end0
  exact ⟨rfl, ⟨_, HF.out.2⟩, HF.out.1⟩

theorem FS.setName {S D : Nat → ByteArray} {fs nb i : Nat} {fl : Nat → Nat} {B k : Nat} {w : World} {C : Array Value} {fr : Nat × Nat} (h : FS S D fs fl B k w) (hn : w.heap[nb]? = some (.cells C 9 fr)) (x : Value) : FS S D fs fl B k (w.setCell ⟨nb, i, none⟩ x) := by
  obtain ⟨v, h1, h2⟩ := h.own
  refine ⟨⟨v, ?_, own_set h2 hn (by decide)⟩, fun j hj => ?_⟩
  · rw [heap_setCell_other _ _ _ _ ?_, h1]
    intro e; subst e; rw [h1] at hn; simp at hn
  · obtain ⟨u, val, h3⟩ := h.flag j hj
    refine ⟨u, val, ?_⟩
    rw [heap_setCell_other _ _ _ _ ?_, h3]
    intro e; subst e; rw [h3] at hn; simp [Flag] at hn

set_option maxHeartbeats 1000000 in
theorem stringVar_any (S D : Nat → ByteArray) (fs nb i : Nat) (fl : Nat → Nat) (B k : Nat) (us : ByteArray) (C : Array Value) (w : World) (hk : k < 1024) (hB : B ≤ fs) (hS : FS S D fs fl B k w) (hn : w.heap[nb]? = some (.cells C 9)) (hi : i < C.size)
    (hne : ∀ i, i < k → (S i).toList ≠ (S k).toList) :
    Calls Tryf.prog 10 #[.pointer (some ⟨fs, 0, none⟩), .pointer (some ⟨nb, i, none⟩), .string (S k), .string (D k), .string us] w fun e w' => e = .returned (.tuple #[]) ∧ (∃ f, FS S D fs (fun i => if i = k then f else fl i) B (k + 1) w') ∧ Kept fs B (w.setCell ⟨nb, i, none⟩ (.string (D k))) w' := by
  have hs := heap_setCell_same w nb i C 9 (.string (D k)) hn
  have c1 : (w.setCell ⟨nb, i, none⟩ (.string (D k))).cell? ⟨nb, i, none⟩ = some (.string (D k)) := by simp [World.cell?, hs, hi]
  have HV := hide (var_any S D fs nb i fl B k us (w.setCell ⟨nb, i, none⟩ (.string (D k))) hk hB (hS.setName hn _) c1 hne)
  have c0 : ∃ v, w.cell? ⟨nb, i, none⟩ = some v := by simp [World.cell?, hn, hi]
  obtain ⟨v, c0⟩ := c0
  have f0 : w.frozen? ⟨nb, i, none⟩ = false := frozen_of_row w nb i _ _ hn
  clear hS hne hs c1 hn hi
  go_enter Tryf.func10, Tryf.ntmps10
  go_wp2_with fail
  refine HV.out.mono ?_
  rintro e w1 ⟨rfl, hF1, hK1⟩
  have HF := hide (And.intro hF1 hK1)
  clear hF1 hK1 HV c0 f0
  go_wp2
  go_end0
  exact ⟨rfl, HF.out.1, HF.out.2⟩
end Go.Proofs.Qxb6613675aFmt.Look
