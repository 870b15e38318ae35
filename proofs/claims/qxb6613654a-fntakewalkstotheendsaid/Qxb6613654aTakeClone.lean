/-
  By the prover: 'make([]T, len(xs)); copy(zzc, xs)' as two run equations over variables, for elements of one cell.
-/
import Derived.Test.Qxb6613654aRows
import Derived.WalkKit
import Derived.WalkSpells
import Derived.Deep.OwnRows
import Derived.Laws.CopyOwn
namespace Go.Proofs.Qxb6613654a.Take
open Go.RowKit Go.Deep

theorem Try.info9 : (Try.prog.info? 9).map (fun i => (i.zero, i.size, i.bytes)) = some (some (.string ⟨#[]⟩), 1, 16) := by kernel_rfl
theorem Try.info3 : (Try.prog.info? 3).map (fun i => (i.zero, i.size, i.bytes)) = some (some (.int .i64 0), 1, 8) := by kernel_rfl

theorem clone_runs (T E : TypeId) (z : Value) (bytes : Nat) (hT : Try.prog.underlying T = some (.slice E)) (hinfo : (Try.prog.info? E).map (fun i => (i.zero, i.size, i.bytes)) = some (some z, 1, bytes)) (hz : z.cells = #[z])
    (a : Option Addr) (n c : Nat) (V : Nat → Value) (w : World) (hb : bytes * n ≤ 281474976710656) (hn : n ≤ 9223372036854775807)
    (hV : 0 < n → ∃ b off, a = some ⟨b, off, none⟩ ∧ ∀ i, i < n → w.cell? ⟨b, off + i, none⟩ = some (V i)) (h1 : ∀ i, (V i).oneCell' = true) :
    ∃ W0 W1 : World, (Instr.makeSlice T (.int .i64 (n : Int)) (.int .i64 (n : Int))).run Try.prog w = .ok (.slice (some ⟨w.heap.size, 0, none⟩) n n) W0 ∧
      (∀ ty, (Builtin.copy_ #[T, T] ty #[.slice (some ⟨w.heap.size, 0, none⟩) n n, .slice a n c]).run Try.prog W0 = .ok (.int .i64 (n : Int)) W1) ∧
      W1.rowIs w.heap.size E n V ∧ Below w.heap.size w W1 := by
  obtain ⟨i, hi, hz0, hz1, hz2⟩ := info_parts hinfo
  have hmk := run_make (P := Try.prog) w T E i z hT hi hz0 .i64 .i64 n n (by omega) (by omega) (by rw [hz2]; omega) (by omega)
  have hsz : (Try.prog.info? E).map (·.size) = some 1 := by simp [hi, hz1]
  simp only [Int.toNat_natCast, hz1, Nat.mul_one, hz] at hmk
  refine ⟨w.alloc (.cells (madeCells #[z] n) E), ?_⟩
  by_cases h0 : n = 0
  · subst h0
    refine ⟨_, hmk, fun ty => run_copy_none (P := Try.prog) _ T T ty E _ a 0 0 0 c hT hsz rfl, ?_, (Below.refl _ _).alloc (Nat.le_refl _) _⟩
    exact (World.rowIs_made w z 0 E).congr (fun i h => absurd h (by omega))
  · obtain ⟨b, off, rfl, hc⟩ := hV (by omega)
    have hlt : ∀ i, i < n → b < w.heap.size := fun i h => World.block_lt_of_cell? _ _ (hc i h)
    have hcp := fun ty => run_copy_row (P := Try.prog) (w.alloc (.cells (madeCells #[z] n) E)) T T ty E w.heap.size 0 n n ⟨b, off, none⟩ n c (madeCells #[z] n) E ((List.range n).map V) hT hsz (heap_alloc_new _ _) (by simp) (by
      intro j v hj
      have hjn : j < n := by
        have := (List.getElem?_eq_some_iff.1 hj).1
        simpa using this
      have : V j = v := by simpa [hjn] using hj
      rw [show (⟨b, off, none⟩ : Addr).add j = ⟨b, off + j, none⟩ by unfold Addr.add; split <;> simp_all, World.cell?_alloc_past _ _ _ (hlt j hjn), hc j hjn, this]) (by simp [size_madeCells]) (by simpa using fun i _ => h1 i)
    refine ⟨_, hmk, fun ty => by simpa [goInt] using hcp ty, ?_, ?_⟩
    · refine ⟨_, setRow_heap _ _ _ _ _ _ (heap_alloc_new _ _), by simp [size_madeCells], fun i hin => ?_⟩
      simp only [List.getElem?_toArray]
      rw [List.getElem?_append_left (by simpa using hin)]
      simp [hin]
    · exact below_setRow ((Below.refl _ _).alloc (Nat.le_refl _) _) (Nat.le_refl _) _
end Go.Proofs.Qxb6613654a.Take
