/-
  By the prover: THE WALK of (*FlagSet).add, Var and StringVar.
-/
import Derived.Test.Qxb6613675aFmtLookFind
import Derived.Test.Qxb6613675aFmtLookItoa
import Derived.Deep.AppendLies
import Derived.Deep.OwnRows
namespace Go.Proofs.Qxb6613675aFmt.Look
open Go.RowKit Go.Deep

theorem Tryf.info33 : (Tryf.prog.info? 33).map (fun i => (i.zero, i.size, i.bytes)) = some (some (.pointer none), 1, 8) := by kernel_rfl

/-- A flag's block. -/
def Flag (s d : ByteArray) (u val : Value) : Obj := .cells #[.string s, .string ⟨#[]⟩, u, val, .string d, .bool false, .map none] 39

def ptrs (fl : Nat → Nat) (k : Nat) : List Value := (List.range k).map fun i => .pointer (some ⟨fl i, 0, none⟩)

/-- The set of flags, k of them so far. -/
structure FS (S D : Nat → ByteArray) (fs : Nat) (fl : Nat → Nat) (B k : Nat) (w : World) : Prop where
  own : ∃ v, w.heap[fs]? = some (.cells #[v, .slice none 0 0] 29) ∧ w.ownsRow B 33 1 v k (ptrs fl k)
  flag : ∀ i, i < k → ∃ u val, w.heap[fl i]? = some (Flag (S i) (D i) u val)

/-- Every block but the set's own and the rows of pointers is as it was. -/
structure Kept (fs B : Nat) (w w' : World) : Prop where
  bel : Below B w w'
  blk : ∀ b C T fr, b ≠ fs → w.heap[b]? = some (.cells C T fr) → T ≠ 33 → w'.heap[b]? = some (.cells C T fr)

theorem lt_of_blk {w : World} {b : Nat} {o : Obj} (h : w.heap[b]? = some o) : b < w.heap.size := by
  rcases Nat.lt_or_ge b w.heap.size with h1 | h1
  · exact h1
  · rw [Array.getElem?_eq_none h1] at h; cases h

theorem Kept.of_below {fs B : Nat} {w w' : World} (hB : B ≤ w.heap.size) (hb : Below w.heap.size w w') : Kept fs B w w' :=
  ⟨hb.mono hB, fun b _ _ _ _ h _ => (hb.block b (lt_of_blk h)).trans h⟩
theorem Kept.trans {fs B : Nat} {w w' w'' : World} (h : Kept fs B w w') (h' : Kept fs B w' w'') : Kept fs B w w'' :=
  ⟨h.bel.trans h'.bel, fun b C T fr n h1 t => h'.blk b C T fr n (h.blk b C T fr n h1 t) t⟩

theorem own_of {w w' : World} {B e size n : Nat} {v : Value} {xs : List Value} (h : w.ownsRow B e size v n xs) (hb : ∀ g, g < w.heap.size → w'.heap[g]? = w.heap[g]?) : w'.ownsRow B e size v n xs := by
  refine ⟨h.1, ?_⟩
  rcases h.2 with hn | ⟨g, cap, cur, rfl, hB, hg, rest⟩
  · exact .inl hn
  · exact .inr ⟨g, cap, cur, rfl, hB, (hb g (lt_of_blk hg)).trans hg, rest⟩

theorem FS.below {S D : Nat → ByteArray} {fs : Nat} {fl : Nat → Nat} {B k : Nat} {w w' : World} (h : FS S D fs fl B k w) (hb : Below w.heap.size w w') : FS S D fs fl B k w' := by
  obtain ⟨v, h1, h2⟩ := h.own
  exact ⟨⟨v, (hb.block _ (lt_of_blk h1)).trans h1, own_of h2 hb.block⟩, fun i hi => by
    obtain ⟨u, val, h3⟩ := h.flag i hi
    exact ⟨u, val, (hb.block _ (lt_of_blk h3)).trans h3⟩⟩

/-- What Lookup's contracts ask. -/
theorem FS.view {S D : Nat → ByteArray} {fs : Nat} {fl : Nat → Nat} {B k : Nat} {w : World} (h : FS S D fs fl B k w) :
    ∃ a c, w.heap[fs]? = some (.cells #[.slice a k c, .slice none 0 0] 29) ∧ w.ownsRow B 33 1 (.slice a k c) k (ptrs fl k) ∧ Row S fl k a w := by
  obtain ⟨v, h1, h2⟩ := h.own
  have hname : ∀ i, i < k → w.cell? ⟨fl i, 0, none⟩ = some (.string (S i)) := fun i hi => by
    obtain ⟨u, val, h3⟩ := h.flag i hi
    simp [World.cell?, h3, Flag]
  rcases h2.2 with ⟨rfl, hk⟩ | ⟨g, cap, cur, rfl, hB, hg, hn, hm, hs, ht⟩
  · subst hk
    exact ⟨none, 0, h1, h2, fun h => absurd h (by omega), hname⟩
  · refine ⟨some ⟨g, 0, none⟩, cap, h1, h2, fun _ => ⟨g, rfl, fun i hi => ?_⟩, hname⟩
    have : cur.toList[i]? = (ptrs fl k)[i]? := by
      rw [← ht, List.getElem?_take, if_pos (by omega)]
    simp only [World.cell?, hg]
    have e2 : (ptrs fl k)[i]? = some (.pointer (some ⟨fl i, 0, none⟩)) := by simp [ptrs, hi]
    rw [e2] at this
    simpa using this

theorem grow_kept {W w2 : World} {B k : Nat} {v : Value} {xs : List Value} (hown : W.ownsRow B 33 1 v k xs) (hg : W.grownBy w2 v.ownBlock) (b : Nat) (C : Array Value) (T : TypeId) (fr : Nat × Nat)
    (h : W.heap[b]? = some (.cells C T fr)) (hT : T ≠ 33) : w2.heap[b]? = some (.cells C T fr) := by
  rw [hg.block b (lt_of_blk h) ?_, h]
  intro e
  rcases hown.2 with ⟨rfl, _⟩ | ⟨g, cap, cur, rfl, _, hg2, _⟩
  · simp [Value.ownBlock] at e
  · simp only [Value.ownBlock, Option.some.injEq] at e
    subst e
    rw [hg2] at h
    simp only [Option.some.injEq, Obj.cells.injEq] at h
    exact hT h.2.1.symm

theorem own_set {w : World} {B k fs i : Nat} {v x : Value} {xs : List Value} {C : Array Value} {T : TypeId} {fr : Nat × Nat} (hown : w.ownsRow B 33 1 v k xs) (h : w.heap[fs]? = some (.cells C T fr)) (hT : T ≠ 33) : (w.setCell ⟨fs, i, none⟩ x).ownsRow B 33 1 v k xs := by
  refine ⟨hown.1, ?_⟩
  rcases hown.2 with hn | ⟨g, cap, cur, rfl, hB, hg, rest⟩
  · exact .inl hn
  · refine .inr ⟨g, cap, cur, rfl, hB, ?_, rest⟩
    rw [heap_setCell_other _ _ _ _ ?_, hg]
    intro e
    subst e
    rw [hg] at h
    simp only [Option.some.injEq, Obj.cells.injEq] at h
    exact hT h.2.1.symm

theorem ptrs_succ (fl : Nat → Nat) (k f : Nat) : ptrs fl k ++ [.pointer (some ⟨f, 0, none⟩)] = ptrs (fun i => if i = k then f else fl i) (k + 1) := by
  unfold ptrs
  rw [List.range_succ, List.map_append]
  congr 1
  · apply List.map_congr_left
    intro i hi
    have : i ≠ k := by have := List.mem_range.1 hi; omega
    simp [this]
  · simp

/-- What add makes of the set. -/
theorem add_fin {S D : Nat → ByteArray} {fs f : Nat} {fl : Nat → Nat} {B k : Nat} {u val : Value} {w w1 w2 : World} {a : Option Addr} {c g cap : Nat} (hB : B ≤ fs) (h1 : w.heap[fs]? = some (.cells #[.slice a k c, .slice none 0 0] 29))
    (h2 : w.ownsRow B 33 1 (.slice a k c) k (ptrs fl k)) (hf : w.heap[f]? = some (Flag (S k) (D k) u val)) (hS : FS S D fs fl B k w) (hb1 : Below w.heap.size w w1)
    (hown : w2.ownsRow B 33 1 (.slice (some ⟨g, 0, none⟩) (k + 1) cap) (k + 1) (ptrs fl k ++ [.pointer (some ⟨f, 0, none⟩)]))
    (hgrow : (w1.alloc (.cells #[.pointer (some ⟨f, 0, none⟩)] 33)).grownBy w2 (Value.slice a k c).ownBlock) :
    w2.heap[fs]? = some (.cells #[.slice a k c, .slice none 0 0] 29) ∧
    FS S D fs (fun i => if i = k then f else fl i) B (k + 1) (w2.setCell ⟨fs, 0, none⟩ (.slice (some ⟨g, 0, none⟩) (k + 1) cap)) ∧ Kept fs B w (w2.setCell ⟨fs, 0, none⟩ (.slice (some ⟨g, 0, none⟩) (k + 1) cap)) := by
  have hz := hb1.size
  have hown1 : (w1.alloc (.cells #[.pointer (some ⟨f, 0, none⟩)] 33)).ownsRow B 33 1 (.slice a k c) k (ptrs fl k) := (own_of h2 hb1.block).alloc _
  have step : ∀ (b : Nat) (C : Array Value) (T : TypeId) (fr : Nat × Nat), w.heap[b]? = some (Obj.cells C T fr) → T ≠ 33 → w2.heap[b]? = some (Obj.cells C T fr) := fun b C T fr h hT => by
    refine grow_kept hown1 hgrow b C T fr ?_ hT
    have hl := lt_of_blk h
    rw [heap_alloc_old _ _ (by omega), hb1.block b hl, h]
  have hfs2 := step fs _ _ _ h1 (by decide)
  have hother : ∀ (b : Nat) (C : Array Value) (T : TypeId) (fr : Nat × Nat), b ≠ fs → w.heap[b]? = some (Obj.cells C T fr) → T ≠ 33 → (w2.setCell ⟨fs, 0, none⟩ (.slice (some ⟨g, 0, none⟩) (k + 1) cap)).heap[b]? = some (Obj.cells C T fr) := fun b C T fr hb h hT => by
    rw [heap_setCell_other _ _ _ _ hb]; exact step b C T fr h hT
  have hne : ∀ b (s d : ByteArray) (u val : Value), w.heap[b]? = some (Flag s d u val) → b ≠ fs := fun b s d u val h e => by
    subst e
    rw [h1] at h
    simp [Flag] at h
  have hBw : B ≤ w.heap.size := Nat.le_trans hB (Nat.le_of_lt (lt_of_blk h1))
  refine ⟨hfs2, ⟨⟨.slice (some ⟨g, 0, none⟩) (k + 1) cap, ?_, ?_⟩, ?_⟩, ⟨?_, hother⟩⟩
  · have := heap_setCell_same w2 fs 0 #[.slice a k c, .slice none 0 0] 29 (.slice (some ⟨g, 0, none⟩) (k + 1) cap) hfs2
    simpa using this
  · rw [← ptrs_succ]
    exact own_set hown hfs2 (by decide)
  · intro i hi
    by_cases e : i = k
    · subst e
      simp only [if_true]
      exact ⟨u, val, hother f _ _ _ (hne f _ _ _ _ hf) hf (by decide)⟩
    · obtain ⟨u', val', h3⟩ := hS.flag i (by omega)
      simp only [e, if_false]
      exact ⟨u', val', hother _ _ _ _ (hne _ _ _ _ _ h3) h3 (by decide)⟩
  · have hb2 : Below B w (w1.alloc (.cells #[.pointer (some ⟨f, 0, none⟩)] 33)) := (hb1.mono hBw).alloc (Nat.le_trans hBw hz) _
    refine Below.setCell (hb2.grown hgrow (by simp; omega) ?_) hB _
    intro b hb
    exact (hown1.lt b hb).1

set_option maxHeartbeats 1000000 in
theorem add_any (S D : Nat → ByteArray) (fs f : Nat) (fl : Nat → Nat) (B k : Nat) (u val : Value) (w : World) (hk : k < 1024) (hB : B ≤ fs) (hS : FS S D fs fl B k w) (hf : w.heap[f]? = some (Flag (S k) (D k) u val))
    (hne : ∀ i, i < k → (S i).toList ≠ (S k).toList) :
    Calls Tryf.prog 27 #[.pointer (some ⟨fs, 0, none⟩), .pointer (some ⟨f, 0, none⟩)] w fun e w' => e = .returned (.tuple #[]) ∧ FS S D fs (fun i => if i = k then f else fl i) B (k + 1) w' ∧ Kept fs B w w' := by
  obtain ⟨a, c, h1, h2, hR⟩ := hS.view
  have cf : w.cell? ⟨f, 0, none⟩ = some (.string (S k)) := by simp [World.cell?, hf, Flag]
  have cs : w.cell? ⟨fs, 0, none⟩ = some (.slice a k c) := by simp [World.cell?, h1]
  have HL := hide (lookup_miss S fl k c a fs (S k) w (by omega) hR cs hne)
  obtain ⟨i0, hi, hz0, hz1, hz2⟩ := info_parts Tryf.info33
  have HS := hide (And.intro h1 (And.intro h2 (And.intro hf hS)))
  have HI := hide (And.intro hi (And.intro hz0 (And.intro hz1 hz2)))
  have hfs : fs < w.heap.size := lt_of_blk h1
  clear h1 h2 hR hf hne hi hz0 hz1 hz2 hS
  go_enter Tryf.func27, Tryf.ntmps27
  go_wp2_with fail
  refine HL.out.mono ?_
  rintro e w1 ⟨rfl, hb1⟩
  have hz := hb1.size
  have cs1 : w1.cell? ⟨fs, 0, none⟩ = some (.slice a k c) := cell_later hb1 cs
  have HO := hide (own_of HS.out.2.1 hb1.block)
  have HB1 := hide hb1
  clear hb1 HL cs cf
  go_wp2_with (at_builtin; refine wpList_append_lies _ rfl _ _ _ rfl B 33 i0 (.pointer none) 1 8 Tryf.underlying27 HI.out.1 HI.out.2.1 HI.out.2.2.1 HI.out.2.2.2 rfl (by omega) (.slice a k c) k (ptrs fl k) rfl (HO.out.alloc _) ⟨w1.heap.size, 0, none⟩ 1 1 [.pointer (some ⟨f, 0, none⟩)] rfl rfl (cell_one_new _ _ _) (by intro u hu; simp at hu; subst hu; rfl) (by omega) (by unfold maxLen; omega) (by omega) (by simp; omega) (w1.heap.size + 1) (by simp) ?_)
  intro g cap w2 hown2 hgrow _ _
  have hfin := add_fin hB HS.out.1 HS.out.2.1 HS.out.2.2.1 HS.out.2.2.2 HB1.out hown2 hgrow
  have HFin := hide hfin
  have c2 : w2.cell? ⟨fs, 0, none⟩ = some (.slice a k c) := by simp [World.cell?, hfin.1]
  have f2 : w2.frozen? ⟨fs, 0, none⟩ = false := frozen_of_row w2 fs 0 _ _ hfin.1
  clear hown2 hgrow hfin HO HB1 HS HI cs1
  go_wp2
  go_end0
  exact ⟨rfl, HFin.out.2.1, HFin.out.2.2⟩
end Go.Proofs.Qxb6613675aFmt.Look
