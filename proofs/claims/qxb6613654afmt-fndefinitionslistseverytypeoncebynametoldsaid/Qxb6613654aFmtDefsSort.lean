/-
  By the prover: slices.SortFunc at []*Definition, by name: the shelf's contract laid at this program; the closure's walk.
-/
import Derived.Test.Qxb6613654aFmtDefsMap
import Derived.Shelf.SlSortCmp.Whole1
import Derived.Shelf.Small.Strs
import Derived.Sort.LotA
import Derived.Shelf.Lay
import Derived.Ground.SlsfProg
import Derived.Ground.NamesProg
import Derived.Deep.QuietTactic
import Derived.BigQuiet
namespace Go.Proofs
open Go.Shelf Go.RowKit Go.Lib Go.Sort
shelf_lay_g SlLaysF.n6 Slsf 6 at Tryf 22 as Tryf.sortDefs
shelf_lay Lays.n106 Nm 106 at Tryf as Tryf.compare
end Go.Proofs

namespace Go.Proofs.Qxb6613654aFmt.Defs
open Go.Shelf Go.RowKit Go.Lib Go.Sort

theorem compare_any (s t : ByteArray) (w : World) : Calls Tryf.prog 24 #[.string s, .string t] w fun e w' => e = .returned (.int .i64 (compareBytes s.data.toList t.data.toList)) ∧ w' = w :=
  Any.strings_Compare Tryf.compare s t w

set_option maxHeartbeats 1000000 in
/-- The closure: it compares the two names. -/
theorem closure_any (f g : Nat) (s t : ByteArray) (w : World) (h0 : w.cell? ⟨f, 0, none⟩ = some (.string s)) (h1 : w.cell? ⟨g, 0, none⟩ = some (.string t)) :
    Calls Tryf.prog 23 #[.pointer (some ⟨f, 0, none⟩), .pointer (some ⟨g, 0, none⟩)] w fun e w' => e = .returned (.int .i64 (compareBytes s.data.toList t.data.toList)) ∧ ∃ q, w' = w.drewN q := by
  have hc := fun w => compare_any s t w
  generalize compareBytes s.data.toList t.data.toList = r at hc ⊢
  go_enter Tryf.func23, Tryf.ntmps23
  go_wp2
  go_quiet ((go_at_call 24; exact Calls.quiet_of_same (hc _)))
  go_wp2
  go_ret
  exact ⟨rfl, _, rfl⟩

theorem below_sortWorld {α : Type} [Inhabited α] (enc : α → Value) (w : World) (blk off m : Nat) (dk : Array α) (os : Array Obj) (hblk : blk < w.heap.size) : RowKit.Below blk w (sortWorld enc w blk off m dk os) := by
  have h1 : (putRow enc (Sort.ahead w m) blk off dk).heap.size = w.heap.size := by rw [size_putRow]; rfl
  refine ⟨rfl, rfl, rfl, ?_, fun k hk => ?_⟩
  · show w.heap.size ≤ (grow (putRow enc (Sort.ahead w m) blk off dk) os).heap.size
    simp only [grow, Array.size_append]
    omega
  · show (grow (putRow enc (Sort.ahead w m) blk off dk) os).heap[k]? = _
    rw [heap_grow_old _ _ (by omega)]
    have : blk ≠ k := by omega
    simp [putRow, mapBlock, Sort.ahead, Array.getElem?_modify, this]

theorem cell_sortWorld_other {α : Type} [Inhabited α] (enc : α → Value) (W : World) (blk off n : Nat) (dk : Array α) (os : Array Obj) (a : Addr) (h1 : a.block ≠ blk) (h2 : a.block < W.heap.size) : (sortWorld enc W blk off n dk os).cell? a = W.cell? a := by
  unfold sortWorld
  rw [cell?_grow _ _ _ (by rw [size_putRow]; exact h2), cell?_putRow_other enc _ blk off dk a (Or.inl h1)]
  rfl

section
variable {n : Nat} (fl : Fin n → Nat) (N : Fin n → ByteArray)

abbrev encF (i : Fin n) : Value := .pointer (some ⟨fl i, 0, none⟩)

theorem cmpLays (blk size : Nat) (w : World) [Inhabited (Fin n)] (hne : ∀ i, fl i ≠ blk) (hc : ∀ i, w.cell? ⟨fl i, 0, none⟩ = some (.string (N i))) :
    CmpLays1 Tryf.prog 23 #[] (encF fl) (cf fun i => (N i).data.toList) blk 0 size w := by
  refine CmpReads.lays fun m os dk _ x y => ?_
  have hx := (cell_sortWorld_other (encF fl) w blk 0 m dk os ⟨fl x, 0, none⟩ (hne x) (World.block_lt_of_cell? _ _ (hc x))).trans (hc x)
  have hy := (cell_sortWorld_other (encF fl) w blk 0 m dk os ⟨fl y, 0, none⟩ (hne y) (World.block_lt_of_cell? _ _ (hc y))).trans (hc y)
  exact closure_any (fl x) (fl y) (N x) (N y) _ hx hy

theorem sort_any (hn : 0 < n) (hn2 : n ≤ 4096) (blk cap : Nat) (d : Array (Fin n)) (w : World) (hd : d.toList.Perm (List.finRange n)) (hN : ∀ i j, (N i).data.toList = (N j).data.toList → i = j)
    (hH : ∀ j (h : j < d.size), w.cell? ⟨blk, j, none⟩ = some (encF fl d[j])) (hF : ∀ j, j < d.size → w.frozen? ⟨blk, j, none⟩ = false) (hblk : blk < w.heap.size) (hne : ∀ i, fl i ≠ blk) (hc : ∀ i, w.cell? ⟨fl i, 0, none⟩ = some (.string (N i))) :
    Calls Tryf.prog 22 #[.slice (some ⟨blk, 0, none⟩) n cap, .func (.func 23) #[] #[]] w fun e w' => e = .returned (.tuple #[]) ∧
      (∀ j (h : j < (ord fun i => (N i).data.toList).length), w'.cell? ⟨blk, j, none⟩ = some (encF fl (ord fun i => (N i).data.toList)[j])) ∧ RowKit.Below blk w w' := by
  haveI : Inhabited (Fin n) := ⟨⟨0, hn⟩⟩
  have hsz : d.size = n := by have := hd.length_eq; simpa using this
  have eg : ∀ args w, (callFunc 23 args).run Tryf.prog w = .ok (.enter 23 args) w := enters_of Tryf.func23 (by kernel_rfl) rfl
  have hold : Holds (encF fl) w blk 0 d := fun j hj => by
    rw [Nat.zero_add]
    refine ⟨?_, hF j hj⟩
    rw [hH j hj, getElem!_pos d j hj]
  have hcon := Any.slices_SortFunc Tryf.sortDefs (encF fl) (fun _ => rfl) (cf fun i => (N i).data.toList) (swo _) 23 #[] blk 0 cap d w eg (cmpLays fl N blk d.size w hne hc) hold hblk (by omega)
  change Calls Tryf.prog 22 _ _ _ at hcon
  rw [hsz] at hcon
  refine hcon.mono ?_
  rintro e w' ⟨rfl, d', q, os, hp, hs, rfl⟩
  have hs' : d'.toList = ord fun i => (N i).data.toList := by
    have h := sorted_unique_holds (swo _) (parts (fun i => (N i).data.toList) hN) d d' (by rw [hsz]; exact hp) (by rw [hsz]; exact hs)
    have h2 := ord_of_perm (fun i => (N i).data.toList) hN hd
    rw [← h2]
    first
      | rw [h]
      | rw [← h]
  have hz : d'.size = d.size := by rw [hp.1]
  have hold' := holds_sortWorld (encF fl) w blk 0 q d d' os hblk hold hz
  refine ⟨rfl, fun j hj => ?_, below_sortWorld _ _ _ _ _ _ _ hblk⟩
  have hj' : j < d'.size := by
    rw [← hs'] at hj
    simpa using hj
  have h1 := (hold' j hj').1
  rw [Nat.zero_add, getElem!_pos d' j hj'] at h1
  rw [h1]
  have : d'[j] = (ord fun i => (N i).data.toList)[j] := by
    simp only [← hs']
    simp
  rw [this]
end
end Go.Proofs.Qxb6613654aFmt.Defs
