/-
  By the prover: maps.Values, slices.AppendSeq, slices.Collect at map[string]*Definition. After the guide's page on a range over a function, and its worked example of a loop that collects, at pointers.
-/
import Derived.RangeFuncNested
import Derived.RangeFuncBound
import Derived.RangeFuncCalls
import Derived.RangeFuncLeaves
import Derived.RangeFuncBox
import Derived.Shelf.Abstract
import Derived.Shelf.AbstractIn
import Derived.Shelf.RegionOpen
import Derived.Sort.MapsRangeIn
import Derived.Sort.KeysCollected
import Derived.Shelf.SlIter.NilStopsS
import Derived.WalkKit
import Derived.OwnWalkIn
import Derived.TacticsInMore
import Derived.LoopNIn
import Derived.LoopIn
import Derived.Maps.AppendAt
import Derived.Test.Qxb6613654aFmtRows
namespace Go.Proofs.Qxb6613654aFmt.Defs
open Go.RowKit Go.Shelf Go.Maps Go.Sort

attribute [local go_sem] Oper.semAt_some

/-- A pointer to the start of a block, or nil. -/
abbrev ptr (x : Option Nat) : Value := .pointer (x.map fun b => ⟨b, 0, none⟩)
/-- What it reads as. -/
def ptrD : Option Nat → DataW Unit
  | none => .nil
  | some b => .lit (.int .u64 (b : Int))
/-- How such an element reads: by its block's number. -/
def elemR : Value → Option (DataW Unit × List MemPlace)
  | .pointer none => some (.nil, [])
  | .pointer (some ⟨b, 0, none⟩) => some (.lit (.int .u64 (b : Int)), [])
  | _ => none

theorem elemR_ptr (x : Option Nat) : elemR (ptr x) = some (ptrD x, []) := by cases x <;> rfl
theorem elemR_inv {v : Value} {y : DataW Unit × List MemPlace} (h : elemR v = some y) : ∃ x, v = ptr x ∧ y = (ptrD x, []) := by
  unfold elemR at h
  split at h
  · exact ⟨none, rfl, by cases h; rfl⟩
  · rename_i b
    exact ⟨some b, rfl, by cases h; rfl⟩
  · cases h
theorem ptrD_inj {x y : Option Nat} (h : ptrD x = ptrD y) : x = y := by
  cases x <;> cases y <;> simp [ptrD] at h ⊢
  omega
theorem ptr_inj {x y : Option Nat} (h : ptr x = ptr y) : x = y := by
  cases x <;> cases y <;> simp at h ⊢
  exact h

/-- The pair's second is the map's value at its first. -/
def ValAt (D0 : DataW Unit) (p : List UInt8 × Option Nat) : Prop := ∀ zd, D0.atKey (.string p.1) zd = ptrD p.2
/-- ALL HAVE COME: the keys, each once, in some order; each with its value. -/
def AllOf (D0 : DataW Unit) (ps : List (List UInt8 × Option Nat)) : Prop := (ps.map (·.1)).Nodup ∧ (∀ x, x ∈ ps.map (·.1) ↔ has D0 (.string x) = true) ∧ ∀ p ∈ ps, ValAt D0 p

set_option maxRecDepth 100000 in
set_option maxHeartbeats 1000000 in
/-- maps.Values's iterator, for every loop body. -/
theorem values1_in (F : Fence) (n : Nat) (h8 : F.fn 34) (hro : F.round = none) (hn : 1 ≤ n) (l Bm b nn : Nat) (D0 : DataW Unit) (J Jx : List (Option Nat) → World → Prop)
    (hY : ∀ pre x W, J pre W → pre.length < Maps.size D0 → YieldAt F (n - 1) Tryf.prog l #[ptr x] W fun e W' =>
      (e = .returned (.bool true) ∧ J (pre ++ [x]) W' ∧ KeepsWalks W W') ∨ (e = .returned (.bool false) ∧ Jx (pre ++ [x]) W'))
    (W : World) (hJ : AbidesFrom W.heap.size J) (hm : W.cell? ⟨Bm, 0, none⟩ = some (.map (some b))) (hown : W.ownsMap Tryf.prog 9 elemR b nn D0) (h0 : J [] W) :
    CallsIn F n Tryf.prog 34 #[.func (.yield l) #[] #[], .pointer (some ⟨Bm, 0, none⟩)] W fun e W' => (∃ v, e = .returned v) ∧
      ((∃ xs, (∃ ps, AllOf D0 ps ∧ xs = ps.map (·.2)) ∧ J xs W') ∨ (∃ pre, Jx pre W')) := by
  refine callsIn_of_wp Tryf.func34 rfl h8 ?_ hro
  simp only [Tryf.ntmps34, List.size_toArray, List.length_cons, List.length_nil, Nat.reduceAdd, Nat.reduceSub, Array.replicate_succ, Array.replicate_zero, List.push_toArray, List.append_toArray, List.nil_append, List.cons_append]
  gi_wp2_with (first
    | (gi_at_range; refine wpListIn_range_own _ rfl _ 39 rfl 9 42 (string_keyed Tryf.underlying9) Tryf.underlying39 _ b nn _ rfl hown ?_; intro w0 hrg0 hg0 hs0)
    | gi_in)
  go_frame
  gi_loopw [4] (fun _ wr => ∃ (left : Lit → Bool) (cnt : Nat) (ps : List (List UInt8 × Option Nat)), wr.ranges Tryf.prog 9 elemR b W.heap.size nn D0 left cnt ∧ ps.length + cnt ≤ Maps.size D0 ∧ Collected D0 left (ps.map (·.1)) ∧ (∀ p ∈ ps, ValAt D0 p) ∧ J (ps.map (·.2)) wr)
    (fun _ wr => wr.rangeLeft b W.heap.size)
  case atStart =>
    exact ⟨_, _, [], hrg0, by simp, Collected.start D0, by simp, hJ [] W w0 none h0 hg0 (fun r e => by cases e)⟩
  case round =>
    obtain ⟨left, cnt, ps, hrg, hcs, hC, hV, hJs⟩ := hrel
    gi_wp2_with (first
      | (gi_at_next; refine wpListIn_next_ranges _ rfl _ rfl 9 (string_keyed Tryf.underlying9) elemR encStr ptr (fun key kl hk => by obtain ⟨x, hx, _⟩ := Maps.keyOf_str Tryf.underlying9 hk; exact ⟨x, hx⟩) (fun v y hv => by obtain ⟨c, rfl, _⟩ := elemR_inv hv; exact ⟨c, rfl⟩) b W.heap.size nn _ _ _ rfl hrg ?_ ?_)
      | gi_in)
    · -- nothing is left
      intro hc0 hl0
      gi_wp2
      go_end0
      exact ⟨⟨_, rfl⟩, .inl ⟨_, ⟨ps, ⟨hC.1, fun x => by rw [hC.2 x, hl0]; simp, hV⟩, rfl⟩, hJs⟩⟩
    · -- an entry has come
      intro x c kl yd yp w2 cnt2 hkey hlk hv hat hrg2 hlt hg2 hs2 hen
      obtain ⟨x', ex, rfl, _⟩ := Maps.keyOf_str Tryf.underlying9 hkey
      obtain rfl : x = x' := encStr_inj ex
      obtain ⟨c', ec, ez⟩ := elemR_inv hv
      obtain rfl : c = c' := ptr_inj ec
      obtain rfl : yd = ptrD c := (Prod.mk.inj ez).1
      have hJ2 : J (ps.map (·.2)) w2 := hJ _ wr w2 (some W.heap.size) hJs hg2 (fun r e => by cases e; exact ⟨Nat.le_refl _, hrg.iter_walk⟩)
      obtain ⟨fn, tmps, assign, body, hy, hR⟩ := hY (ps.map (·.2)) c w2 hJ2 (by simp; omega)
      clear hs2
      gi_wp2
      refine hR.mono ?_
      have hC2 : Collected D0 (fun z => left z && !z.sameKey (.string x)) ((ps ++ [(x, c)]).map (·.1)) := by simpa using hC.step hlk hat
      have hV2 : ∀ p ∈ ps ++ [(x, c)], ValAt D0 p := fun p hp => (List.mem_append.1 hp).elim (hV p) (fun e => by simp at e; subst e; exact hat)
      rintro e W3 (⟨rfl, hJ3, hk3⟩ | ⟨rfl, hJx3⟩)
      · gi_wp2
        have hrg3 := hrg2.of_walks hk3
        go_roundw
        case rel => exact ⟨_, cnt2, ps ++ [(x, c)], hrg3, by simp; omega, hC2, hV2, by simpa using hJ3⟩
        case measure => rw [hrg3.left_eq, hrg.left_eq]; exact hlt
      · gi_wp2
        refine bodyPost_ret (results_none rfl _ _ _) rfl ?_
        exact ⟨⟨_, rfl⟩, .inr ⟨_, hJx3⟩⟩

set_option maxHeartbeats 1000000 in
/-- maps.Values(m): the map is boxed; the function value captures the box. -/
theorem values_in (F : Fence) (n : Nat) (hf : F.fn 21) (hro : F.round = none) (mb : Option Nat) (w : World) :
    CallsIn F n Tryf.prog 21 #[.map mb] w fun e w' => e = .returned (.func (.func 34) #[] #[.pointer (some ⟨w.heap.size, 0, none⟩)]) ∧ w' = w.alloc (.cells #[.map mb] 39) := by
  refine callsIn_of_wp Tryf.func21 rfl hf ?_ hro
  simp only [Tryf.ntmps21, List.size_toArray, List.length_cons, List.length_nil, Nat.reduceAdd, Nat.reduceSub, Array.replicate_succ, Array.replicate_zero, List.push_toArray, List.append_toArray, List.nil_append, List.cons_append]
  gi_wp2
  go_ret
  exact ⟨rfl, rfl⟩

theorem values_stops (F : Fence) (n : Nat) (h7 : F.fn 34) (hro : F.round = none) (hn : 1 ≤ n) (Bm b nn : Nat) (D0 : DataW Unit) (w : World) (hBm : Bm < w.heap.size)
    (hm : w.cell? ⟨Bm, 0, none⟩ = some (.map (some b))) (hown : w.ownsMap Tryf.prog 9 elemR b nn D0) :
    SeqStops F n Tryf.prog 34 #[.pointer (some ⟨Bm, 0, none⟩)] ptr (fun xs => ∃ ps, AllOf D0 ps ∧ xs = ps.map (·.2)) (fun _ => True) (Maps.size D0) w := fun l J Jx W hW hJ _ hY h0 => by
  have hown' : W.ownsMap Tryf.prog 9 elemR b nn D0 := by
    have hbl := hown.lt
    obtain ⟨es, clock, hb, Ft, hs, hD⟩ := hown
    exact ⟨es, clock, (hW.block b hbl).trans hb, Ft, hs, hD⟩
  exact (values1_in F n h7 hro hn l Bm b nn D0 J Jx hY W hJ ((hW.cell (p := ⟨Bm, 0, none⟩) hBm).trans hm) hown' h0).mono fun _ _ ⟨he, h⟩ => ⟨he, h.imp id (fun ⟨pre, hp⟩ => ⟨pre, trivial, hp⟩)⟩

set_option maxRecDepth 100000 in
set_option maxHeartbeats 1000000 in
theorem values1_nil_in (F : Fence) (n : Nat) (hf : F.fn 34) (hro : F.round = none) (l Bm : Nat) (J : List (Option Nat) → World → Prop) (W : World) (hJ : AbidesFrom W.heap.size J)
    (hm : W.cell? ⟨Bm, 0, none⟩ = some (.map none)) (h0 : J [] W) :
    CallsIn F n Tryf.prog 34 #[.func (.yield l) #[] #[], .pointer (some ⟨Bm, 0, none⟩)] W fun e W' => (∃ v, e = .returned v) ∧ J [] W' := by
  refine callsIn_of_wp Tryf.func34 rfl hf ?_ hro
  simp only [Tryf.ntmps34, List.size_toArray, List.length_cons, List.length_nil, Nat.reduceAdd, Nat.reduceSub, Array.replicate_succ, Array.replicate_zero, List.push_toArray, List.append_toArray, List.nil_append, List.cons_append]
  have hrg := run_range_nilMap (P := Tryf.prog) W 39 9 42 Tryf.underlying39
  have hnx : ∀ ty, (Instr.next (.pointer (some ⟨W.heap.size, 0, none⟩)) false ty).run Tryf.prog (W.alloc (.mapIter none 0 #[] 0)) = _ := fun ty => run_next_nilMap _ ty 0 0 #[]
  gi_wp2
  refine wpIn_loop_rounds 1 ?_
  rw [roundsIn_succ]
  gi_wp2
  go_end0
  exact ⟨⟨_, rfl⟩, hJ [] W _ none h0 (World.grownBy_alloc W _ none) (fun r e => by cases e)⟩

/-- At a nil map nothing comes. -/
theorem values_stops_nil (F : Fence) (n : Nat) (hf : F.fn 34) (hro : F.round = none) (Bm : Nat) (w : World) (hBm : Bm < w.heap.size) (hm : w.cell? ⟨Bm, 0, none⟩ = some (.map none)) :
    SeqStops F n Tryf.prog 34 #[.pointer (some ⟨Bm, 0, none⟩)] ptr (fun xs : List (Option Nat) => xs = []) (fun _ => True) 0 w := fun l J _ W hW hJ _ _ h0 =>
  (values1_nil_in F n hf hro l Bm J W hJ ((hW.cell (p := ⟨Bm, 0, none⟩) hBm).trans hm) h0).mono fun _ _ ⟨he, hj⟩ => ⟨he, .inl ⟨[], rfl, hj⟩⟩

theorem Tryf.info42 : (Tryf.prog.info? 42).map (fun i => (i.zero, i.size, i.bytes)) = some (some (.pointer none), 1, 8) := by kernel_rfl

set_option maxRecDepth 100000 in
set_option maxHeartbeats 2000000 in
/-- slices.AppendSeq(nil, seq): all that comes, in its order. -/
theorem appendSeq_in (F : Fence) (n : Nat) (h27 : F.fn 33) (h28 : F.fn 34) (hro : F.round = none) (hn : 3 ≤ n) (Bm N : Nat) (S Sp : List (Option Nat) → Prop) (hlen : N ≤ maxLen) (hbytes : N * 8 ≤ 140737488355328) (w : World)
    (hseq : ∀ W, Below w.heap.size w W → SeqStops F (n - 1) Tryf.prog 34 #[.pointer (some ⟨Bm, 0, none⟩)] ptr S Sp N W) :
    CallsIn F n Tryf.prog 33 #[.slice none 0 0, .func (.func 34) #[] #[.pointer (some ⟨Bm, 0, none⟩)]] w fun e W' => ∃ v xs, e = .returned v ∧ S xs ∧ W'.ownsRow w.heap.size 42 1 v xs.length (xs.map ptr) ∧ (v = .slice none 0 0 ↔ xs = []) ∧ Below w.heap.size w W' := by
  have h1 : 1 ≤ n := by omega
  obtain ⟨i0, hi, hz0, hz1, hz2⟩ := info_parts Tryf.info42
  refine callsIn_of_wp_marks Tryf.func33 rfl h27 ?_ hro
  simp only [Tryf.ntmps33, List.size_toArray, List.length_cons, List.length_nil, Nat.reduceAdd, Nat.reduceSub, Array.replicate_succ, Array.replicate_zero, List.push_toArray, List.append_toArray, List.nil_append, List.cons_append]
  gi_wp2
  have bO := Boxed.new w 48 (.slice none 0 0)
  have hB0 : Below w.heap.size w (w.alloc (.cells #[.slice none 0 0] 48)) := (Below.refl _ w).alloc (Nat.le_refl _) _
  refine wpIn_rangeFunc_ownG hro h1 (gf := 34) (lb := #[.pointer (some ⟨Bm, 0, none⟩)]) rfl h28 (enters_of Tryf.func34 (by kernel_rfl) rfl)
    (hseq _ hB0) walksK_t walksK_b (Below.refl _ _) (fun _ => rfl)
    (fun pre W => (∃ v, Boxed W w.heap.size 48 v ∧ W.ownsRow w.heap.size 42 1 v pre.length (pre.map ptr) ∧ (v = .slice none 0 0 ↔ pre = [])) ∧ Below w.heap.size w W)
    (fun _ _ _ => False)
    (OwnFrom.and (Own.from (holdsRow_own w.heap.size w.heap.size 48 42 1 (fun pre => pre.length) (fun pre => pre.map ptr) (fun pre v => v = .slice none 0 0 ↔ pre = [])) _) (ownFrom_below (Nat.le_refl _) (by simp)))
    (fun _ _ _ _ _ hs _ _ => hs)
    ⟨⟨_, bO, World.ownsRow_nil _ _ _ _, by simp⟩, hB0⟩
    (fun x => { tmps := #[.slice none 0 0, .func (.func 34) #[] #[.pointer (some ⟨Bm, 0, none⟩)], .pointer (some ⟨w.heap.size, 0, none⟩), undef, .slice none 0 0, ptr x, .func (.func 34) #[] #[.pointer (some ⟨Bm, 0, none⟩)], ptr x, undef, undef, undef, undef, undef], defers := [] }) ?assign ?body ?done ?stop
  case assign =>
    intro l x W K hK
    gi_wp2
    exact hK
  case body =>
    rintro l pre x W ⟨⟨v, hv, hrow, hnil⟩, hB⟩ hlt
    have hc := hv.cell
    gi_wp2_with (gi_at_builtin; refine wpListIn_append_own _ rfl _ _ 48 rfl w.heap.size 42 i0 (.pointer none) 1 8 Tryf.underlying48 hi hz0 hz1 hz2 rfl (by decide) _ _ _ rfl (hrow.alloc _) ⟨W.heap.size, 0, none⟩ 1 1 [ptr x] rfl rfl (cell_one_new _ _ _) (by simp [Value.oneCell']) (by omega) (by omega) (by have := hB.size; simp; omega) ?_; intro v' w1 hown' hgrow _; obtain ⟨g', cap', rfl⟩ := ownsRow_succ hown'; obtain ⟨hv1, hv2, hr2, hk2, hb2⟩ := hv.appended (by decide) hrow hB.size (Nat.le_refl _) hown' hgrow; have hc1 := hv1.cell; have hf1 := hv1.frozen)
    exact ⟨hk2.from _, hk2.walks, ⟨_, hv2, by simpa using hr2, by simp⟩, hB.trans hb2⟩
  case done =>
    rintro D ys W hD hS ⟨⟨v, hv, hrow, hnil⟩, hB⟩ hK
    have hc := hv.cell
    gi_wp2
    refine ⟨by simp, .inl ⟨_, _, rfl, run_takeDeferred hK, ?_⟩⟩
    exact ⟨_, results_tmp rfl _ _ _, v, ys, rfl, hS, ownsRow_putObj hrow _ hK rfl, hnil, hB.trans (belowK_b (w := w) (Nat.le_refl _) W D _ _ (by simp at hD; omega) hK rfl rfl)⟩
  case stop =>
    rintro D c pre W _ _ h _
    exact h.elim

set_option maxHeartbeats 1000000 in
/-- slices.Collect(seq). -/
theorem collect_in (F : Fence) (n : Nat) (h19 : F.fn 20) (h27 : F.fn 33) (h28 : F.fn 34) (hro : F.round = none) (hn : 4 ≤ n) (Bm N : Nat) (S Sp : List (Option Nat) → Prop) (hlen : N ≤ maxLen) (hbytes : N * 8 ≤ 140737488355328) (w : World)
    (hseq : ∀ W, Below w.heap.size w W → SeqStops F (n - 1 - 1) Tryf.prog 34 #[.pointer (some ⟨Bm, 0, none⟩)] ptr S Sp N W) :
    CallsIn F n Tryf.prog 20 #[.func (.func 34) #[] #[.pointer (some ⟨Bm, 0, none⟩)]] w fun e W' => ∃ v xs, e = .returned v ∧ S xs ∧ W'.ownsRow w.heap.size 42 1 v xs.length (xs.map ptr) ∧ (v = .slice none 0 0 ↔ xs = []) ∧ Below w.heap.size w W' := by
  have h1 : 1 ≤ n := by omega
  refine callsIn_of_wp Tryf.func20 rfl h19 ?_ hro
  simp only [Tryf.ntmps20, List.size_toArray, List.length_cons, List.length_nil, Nat.reduceAdd, Nat.reduceSub, Array.replicate_succ, Array.replicate_zero, List.push_toArray, List.append_toArray, List.nil_append, List.cons_append]
  gi_wp2_with (gi_at_call 33; refine (appendSeq_in F (n - 1) h27 h28 hro (by omega) Bm N S Sp hlen hbytes w hseq).mono ?_; rintro e W' ⟨v, xs, rfl, hS, hrow, hnil, hb⟩)
  go_ret
  exact ⟨v, xs, rfl, hS, hrow, hnil, hb⟩
end Go.Proofs.Qxb6613654aFmt.Defs
