/-
  By the prover: WHAT zzBuild's walk carries: a world that has turned in one map's block alone; look-ups and stores as equations.
-/
import Derived.Test.Qxb6613654aFmtDefsMap
import Derived.Test.Qxb6613654aFmtDefsBytes
import Derived.Test.Qxb6613654aFmtDefsName
namespace Go.Proofs.Qxb6613654aFmt.Defs
open Go.RowKit Go.Maps

/-- Every block of w but r stands in w'. -/
structure But (r : Nat) (w w' : World) : Prop where
  os : w'.os = w.os
  tape : w'.tape = w.tape
  output : w'.output = w.output
  size : w.heap.size ≤ w'.heap.size
  block : ∀ k, k < w.heap.size → k ≠ r → w'.heap[k]? = w.heap[k]?

theorem But.refl (r : Nat) (w : World) : But r w w := ⟨rfl, rfl, rfl, Nat.le_refl _, fun _ _ _ => rfl⟩
theorem But.below {r : Nat} {w w' w'' : World} (h : But r w w') (hb : RowKit.Below w'.heap.size w' w'') : But r w w'' :=
  ⟨hb.os.trans h.os, hb.tape.trans h.tape, hb.output.trans h.output, Nat.le_trans h.size hb.size, fun k hk hr => (hb.block k (Nat.lt_of_lt_of_le hk h.size)).trans (h.block k hk hr)⟩
theorem But.grown {r : Nat} {w w' w'' : World} (h : But r w w') (hg : w'.grownBy w'' (some r)) : But r w w'' :=
  ⟨hg.os.trans h.os, hg.tape.trans h.tape, hg.output.trans h.output, Nat.le_trans h.size hg.size, fun k hk hr => (hg.block k (Nat.lt_of_lt_of_le hk h.size) (by simpa using hr)).trans (h.block k hk hr)⟩
theorem But.toBelow {r B : Nat} {w w' : World} (h : But r w w') (hr : B ≤ r) (hB : B ≤ w.heap.size) : RowKit.Below B w w' :=
  ⟨h.os, h.tape, h.output, h.size, fun k hk => h.block k (by omega) (by omega)⟩
theorem But.blk {r k : Nat} {w w' : World} {o : Obj} (h : But r w w') (hb : w.heap[k]? = some o) (hr : k ≠ r) : w'.heap[k]? = some o :=
  (h.block k (Array.getElem?_eq_some_iff.1 hb).1 hr).trans hb
theorem But.owns {r b nn : Nat} {w w' : World} {D : DataW Unit} (h : But r w w') (ho : w.ownsMap Tryf.prog 9 elemR b nn D) (hr : b ≠ r) : w'.ownsMap Tryf.prog 9 elemR b nn D := by
  obtain ⟨es, clock, h1, F, hs, hD⟩ := ho
  exact ⟨es, clock, h.blk h1 hr, F, hs, hD⟩

theorem owns_below {w w' : World} {b nn : Nat} {D : DataW Unit} (h : w.ownsMap Tryf.prog 9 elemR b nn D) (hb : RowKit.Below w.heap.size w w') : w'.ownsMap Tryf.prog 9 elemR b nn D := by
  have hlt := h.lt
  obtain ⟨es, clock, h1, F, hs, hD⟩ := h
  exact ⟨es, clock, (hb.block b hlt).trans h1, F, hs, hD⟩

theorem Tryf.zero42 (w : World) : (zeroValue 42).run Tryf.prog w = .ok (.pointer none) w := by kernel_rfl
theorem Tryf.zero70 (w : World) : (zeroValue 70).run Tryf.prog w = .ok (.pointer none) w := by kernel_rfl

/-- 'm[k]' at a map of this program, in whatever world that has but drawn since: one value. -/
theorem look_uni {T E : TypeId} (hT : Tryf.prog.underlying T = some (.map 9 E)) (hz : ∀ w, (zeroValue E).run Tryf.prog w = .ok (.pointer none) w) {w : World} {b nn : Nat} {D : DataW Unit} (h : w.ownsMap Tryf.prog 9 elemR b nn D) (s : ByteArray) (hs : s.size ≤ maxLen) :
    ∃ x, ptrD x = D.atKey (.string s.data.toList) .nil ∧ ∀ w' : World, w'.heap = w.heap → (Instr.lookup T (.map (some b)) (.string s) false).run Tryf.prog w' = .ok (ptr x) w' := by
  have hk : keyOf Tryf.prog 9 (.string s) = some (.string s.data.toList) := Go.WideMaps.keyOf_string_mk Tryf.underlying9 hs
  have one : ∀ w' : World, w'.heap = w.heap → ∃ x, (Instr.lookup T (.map (some b)) (.string s) false).run Tryf.prog w' = .ok (ptr x) w' ∧ ptrD x = D.atKey (.string s.data.toList) .nil := fun w' hw => by
    have h' : w'.ownsMap Tryf.prog 9 elemR b nn D := by
      obtain ⟨es, clock, h1, r⟩ := h
      exact ⟨es, clock, by rw [hw]; exact h1, r⟩
    obtain ⟨v, ps, hrun, hv⟩ := h'.lookup (string_keyed Tryf.underlying9) hT (hz w') (zd := .nil) (zp := []) rfl hk
    obtain ⟨x, rfl, hx⟩ := elemR_inv hv
    exact ⟨x, hrun, (Prod.mk.inj hx).1.symm⟩
  obtain ⟨x, _, hx⟩ := one w rfl
  refine ⟨x, hx, fun w' hw => ?_⟩
  obtain ⟨y, hrun, hy⟩ := one w' hw
  obtain rfl : x = y := ptrD_inj (hx.trans hy.symm)
  exact hrun
end Go.Proofs.Qxb6613654aFmt.Defs
