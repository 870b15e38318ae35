/-
  By the prover: THE WALKS of zzRecord and the two makers.
-/
import Derived.Test.Qxb6614172aFmtRows
import Derived.WalkKit
import Derived.WalkSpells
import Derived.WalkLawsBesides
import Derived.RegionTactic
import Derived.Deep.OwnRows
import Derived.Deep.WholeRow
import Derived.Deep.RegionWith
import Derived.Deep.QuietTactic
import Derived.BigQuiet
import Derived.Lib.EndianBits
namespace Go.Proofs.Qxb6614172aFmt.Pos
open Go.RowKit Go.Deep

theorem hide {p : Prop} (h : p) : Hid p := h

theorem Tryf.size22 : (Tryf.prog.info? 22).map (·.size) = some 312 := by kernel_rfl

theorem foldl_set (l : List Value) : ∀ (k : Nat) (Z : Array Value) (i : Nat), ((l.zipIdx k).foldl (fun cs x => cs.setIfInBounds x.2 x.1) Z)[i]? = if k ≤ i ∧ i < k + l.length ∧ i < Z.size then l[i - k]? else Z[i]? := by
  induction l with
  | nil =>
    intro k Z i
    rw [if_neg (by simp; omega)]
    rfl
  | cons v l ih =>
    intro k Z i
    rw [List.zipIdx_cons, List.foldl_cons, ih]
    simp only [Array.size_setIfInBounds, Array.getElem?_setIfInBounds, List.length_cons]
    by_cases h1 : k = i
    · subst h1
      by_cases h2 : k < Z.size
      · rw [if_neg (by omega), if_pos rfl, if_pos h2, if_pos ⟨Nat.le_refl _, by omega, h2⟩, Nat.sub_self]; rfl
      · rw [if_neg (by omega), if_pos rfl, if_neg h2, if_neg (by omega)]; simp; omega
    · by_cases h2 : k + 1 ≤ i ∧ i < k + 1 + l.length ∧ i < Z.size
      · have e : i - k = (i - (k + 1)) + 1 := by omega
        rw [if_pos h2, if_pos ⟨by omega, by omega, h2.2.2⟩, e, List.getElem?_cons_succ]
      · rw [if_neg h2, if_neg h1, if_neg (by omega)]

def Z48 : Array Value := (Array.replicate 312 (Value.int .u8 0)).push .nilIface

theorem built48 (parts : List (Nat × Value)) : Tryf.prog.built 40 parts = Instr.fill ((#[(0, 312), (312, 1)] : Array (Nat × Nat))[·]?) Z48 parts := by kernel_rfl

theorem size_Z48 : Z48.size = 313 := by simp [Z48]

theorem built_rec (arr : Array Value) (v : Value) (ha : arr.size = 312) (hv : v.cells = #[v]) : Tryf.prog.built 40 [(0, .agg arr), (1, v)] = some (arr.push v) := by
  rw [built48]
  have hc : (Value.agg arr).cells = arr := rfl
  simp only [Instr.fill, hc, hv, List.getElem?_toArray, List.getElem?_cons_zero, List.getElem?_cons_succ, ha, size_Z48]
  rw [if_neg (by simp)]
  have hs : (Array.foldl (fun (cs : Array Value) (x : Value × Nat) => cs.setIfInBounds (0 + x.snd) x.fst) Z48 arr.zipIdx) = arr.push .nilIface := by
    apply Array.ext_getElem?
    intro i
    rw [show (fun (cs : Array Value) (x : Value × Nat) => cs.setIfInBounds (0 + x.snd) x.fst) = (fun cs x => cs.setIfInBounds x.snd x.fst) by funext cs x; simp]
    rw [← Array.foldl_toList, Array.toList_zipIdx, foldl_set]
    by_cases h : i < 312
    · rw [if_pos ⟨by omega, by simp [ha]; omega, by rw [size_Z48]; omega⟩]
      simp [Array.getElem?_push, ha, show i ≠ 312 by omega]
    · rw [if_neg (by simp [ha]; omega)]
      simp only [Z48, Array.getElem?_push, Array.size_replicate, ha]
      by_cases h2 : i = 312
      · simp [h2]
      · simp only [h2, if_false]
        rw [Array.getElem?_eq_none (by simp; omega), Array.getElem?_eq_none (by omega)]
  rw [hs]
  rw [if_neg (by simp [ha])]
  congr 1
  rw [← Array.foldl_toList, Array.toList_zipIdx]
  simp only [List.zipIdx_cons, List.zipIdx_nil, List.foldl_cons, List.foldl_nil, Nat.add_zero]
  apply Array.ext_getElem?
  intro i
  rw [Array.getElem?_setIfInBounds]
  simp only [Array.getElem?_push, Array.size_push, ha]
  by_cases h2 : i = 312
  · simp [h2]
  · simp [h2, Ne.symm h2]

theorem wpList_rec {ops : Array Oper} {rest : List Oper} {o : Oper} {a : Act} {w : World} {Q : Exit → Act → World → Prop} (hg : o.guard = none) (x y : Operand) (ho : o.op = .build 40 #[(0, x), (1, y)])
    (arr : Array Value) (v : Value) (hx : a.eval x = .agg arr) (hy : a.eval y = v) (hb : Tryf.prog.built 40 [(0, .agg arr), (1, v)] = some (arr.push v))
    (h : wpList Tryf.prog ops Q rest (a.put o.dst (.agg (arr.push v))) w) : wpList Tryf.prog ops Q (o :: rest) a w := by
  have e : (#[(0, x), (1, y)].map fun (i, x) => (i, a.eval x)).toList = [(0, Value.agg arr), (1, v)] := by simp [hx, hy]
  refine wpList_build hg 40 _ ho (by rw [e, hb]; rfl) ?_
  rw [e, hb]
  exact h

/-- The order's interface value: binary.BigEndian, binary.LittleEndian. -/
def ord (big : Bool) : Value := if big then .iface 47 (.agg #[]) else .iface 48 (.agg #[])

set_option maxHeartbeats 400000 in
theorem be_any (arr : Array Value) (w : World) (ha : arr.size = 312) :
    Calls Tryf.prog 10 #[.agg arr] w fun e w' => e = .returned (.pointer (some ⟨w.heap.size + 1, 0, none⟩)) ∧ w' = (w.alloc (.cells arr 22)).alloc (.cells (arr.push (ord true)) 40) := by
  have hsz : (Tryf.prog.info? 22).map (·.size) = some arr.size := by rw [Tryf.size22, ha]
  have Hsz := hide hsz
  have Hb := hide (built_rec arr (.iface 47 (.agg #[])) ha rfl)
  clear hsz ha
  go_enter Tryf.func10, Tryf.ntmps10
  go_wp2_with (first
    | refine wpList_load_row rfl 22 _ rfl w.heap.size rfl 22 arr (0, 0) _ (heap_alloc_new _ _) Tryf.underlying22 rfl Hsz.out ?_
    | refine wpList_rec rfl _ _ rfl arr (.iface 47 (.agg #[])) rfl rfl Hb.out ?_)
  go_ret
  exact ⟨rfl, rfl⟩

set_option maxHeartbeats 400000 in
theorem le_any (arr : Array Value) (w : World) (ha : arr.size = 312) :
    Calls Tryf.prog 11 #[.agg arr] w fun e w' => e = .returned (.pointer (some ⟨w.heap.size + 1, 0, none⟩)) ∧ w' = (w.alloc (.cells arr 22)).alloc (.cells (arr.push (ord false)) 40) := by
  have hsz : (Tryf.prog.info? 22).map (·.size) = some arr.size := by rw [Tryf.size22, ha]
  have Hsz := hide hsz
  have Hb := hide (built_rec arr (.iface 48 (.agg #[])) ha rfl)
  clear hsz ha
  go_enter Tryf.func11, Tryf.ntmps11
  go_wp2_with (first
    | refine wpList_load_row rfl 22 _ rfl w.heap.size rfl 22 arr (0, 0) _ (heap_alloc_new _ _) Tryf.underlying22 rfl Hsz.out ?_
    | refine wpList_rec rfl _ _ rfl arr (.iface 48 (.agg #[])) rfl rfl Hb.out ?_)
  go_ret
  exact ⟨rfl, rfl⟩

/-- What is known of a record: its block is the 312 bytes and the order. -/
def Rec (big : Bool) (x : Nat → Int) (p : Nat) (w : World) : Prop := w.rowIs p 40 313 (fun i => if i < 312 then .int .u8 (x i) else ord big)

theorem rec_of (arr : Array Value) (big : Bool) (x : Nat → Int) (W : World) (ha : arr.size = 312) (hx : ∀ i, i < 312 → arr[i]? = some (.int .u8 (x i))) :
    Rec big x W.heap.size (W.alloc (.cells (arr.push (ord big)) 40)) := by
  have h := World.rowIs_alloc W (arr.push (ord big)) 40 (fun i => if i < 312 then .int .u8 (x i) else ord big) (by
    intro i hi
    rw [Array.size_push, ha] at hi
    by_cases h : i < 312
    · rw [Array.getElem?_push, ha, if_neg (by omega), hx i h, if_pos h]
    · have : i = 312 := by omega
      subst this
      rw [Array.getElem?_push, ha, if_pos rfl, if_neg h])
  rw [Array.size_push, ha] at h
  exact h

set_option maxHeartbeats 400000 in
theorem rec_any (arr : Array Value) (big : Bool) (x : Nat → Int) (w : World) (ha : arr.size = 312) (hx : ∀ i, i < 312 → arr[i]? = some (.int .u8 (x i))) :
    Calls Tryf.prog 4 #[.agg arr, .bool big] w fun e w' => ∃ p, e = .returned (.pointer (some ⟨p, 0, none⟩)) ∧ w.heap.size ≤ p ∧ Rec big x p w' ∧ Below w.heap.size w w' := by
  have hsz : (Tryf.prog.info? 22).map (·.size) = some arr.size := by rw [Tryf.size22, ha]
  have Hsz := hide hsz
  have Ha := hide ha
  have Hx := hide hx
  clear hsz ha hx
  have fin : ∀ (big : Bool), Rec big x (w.heap.size + 1 + 1) (((w.alloc (.cells arr 22)).alloc (.cells arr 22)).alloc (.cells (arr.push (ord big)) 40)) ∧ Below w.heap.size w (((w.alloc (.cells arr 22)).alloc (.cells arr 22)).alloc (.cells (arr.push (ord big)) 40)) := fun big =>
    ⟨by have h := rec_of arr big x ((w.alloc (.cells arr 22)).alloc (.cells arr 22)) Ha.out Hx.out; rwa [World.size_alloc, World.size_alloc] at h, ((((Below.refl _ _).alloc (Nat.le_refl _) _).alloc (by simp) _).alloc (by simp; omega) _)⟩
  have Fin := hide fin
  clear fin
  cases big
  · go_enter Tryf.func4, Tryf.ntmps4
    go_wp2_with (first
      | refine wpList_load_row rfl 22 _ rfl w.heap.size rfl 22 arr (0, 0) _ (heap_alloc_new _ _) Tryf.underlying22 rfl Hsz.out ?_
      | (go_at_call 11; refine (le_any arr _ Ha.out).mono ?_; rintro e w1 ⟨rfl, rfl⟩))
    go_ret
    exact ⟨_, rfl, by omega, (Fin.out false).1, (Fin.out false).2⟩
  · go_enter Tryf.func4, Tryf.ntmps4
    go_wp2_with (first
      | refine wpList_load_row rfl 22 _ rfl w.heap.size rfl 22 arr (0, 0) _ (heap_alloc_new _ _) Tryf.underlying22 rfl Hsz.out ?_
      | (go_at_call 10; refine (be_any arr _ Ha.out).mono ?_; rintro e w1 ⟨rfl, rfl⟩))
    go_ret
    exact ⟨_, rfl, by omega, (Fin.out true).1, (Fin.out true).2⟩
end Go.Proofs.Qxb6614172aFmt.Pos
