/-
  By the prover: THE WALK of (*Schema).Definitions.
-/
import Derived.Test.Qxb6613654aFmtDefsSort
import Derived.Test.Qxb6613654aFmtDefsIn
namespace Go.Proofs.Qxb6613654aFmt.Defs
open Go.Shelf Go.RowKit Go.Lib Go.Sort

/-- The j-th in the order of names. -/
def pick (n : Nat) (S : Nat → ByteArray) (j : Nat) : Nat := match (ord fun i : Fin n => (S i).data.toList)[j]? with | some i => i | none => 0

theorem pick_eq {n : Nat} {S : Nat → ByteArray} {j : Nat} (h : j < (ord fun i : Fin n => (S i).data.toList).length) : pick n S j = (ord fun i : Fin n => (S i).data.toList)[j] := by
  unfold pick
  rw [List.getElem?_eq_getElem h]

theorem pick_lt {n : Nat} {S : Nat → ByteArray} {j : Nat} (h : j < n) : pick n S j < n := by
  rw [pick_eq (by rw [ord_length]; exact h)]
  exact Fin.isLt _

theorem pick_asc {n : Nat} {S : Nat → ByteArray} (hN : ∀ i j, i < n → j < n → (S i).data.toList = (S j).data.toList → i = j) {i j : Nat} (hij : i < j) (hj : j < n) : (S (pick n S i)).data.toList < (S (pick n S j)).data.toList := by
  have hl := ord_length (fun i : Fin n => (S i).data.toList)
  rw [pick_eq (by omega), pick_eq (by omega)]
  exact ord_lt (fun i : Fin n => (S i).data.toList) (fun x y e => Fin.ext (hN x y x.2 y.2 e)) i j hij (by omega)

/-- A Schema that holds n definitions. -/
structure SchemaAt (n : Nat) (S : Nat → ByteArray) (fl : Nat → Nat) (sb : Nat) (w : World) : Prop where
  names : ∀ i, i < n → w.cell? ⟨fl i, 0, none⟩ = some (.string (S i))
  none_ : n = 0 → w.cell? ⟨sb, 1, none⟩ = some (.map none)
  some_ : 0 < n → ∃ mb nn D, w.cell? ⟨sb, 1, none⟩ = some (.map (some mb)) ∧ w.ownsMap Tryf.prog 9 elemR mb nn D ∧ MapIs n S fl D

theorem ownsMap_below {w w' : World} {b nn : Nat} {D : DataW Unit} (h : w.ownsMap Tryf.prog 9 elemR b nn D) (hb : RowKit.Below w.heap.size w w') : w'.ownsMap Tryf.prog 9 elemR b nn D := by
  have hlt := h.lt
  obtain ⟨es, clock, h1, F, hs, hD⟩ := h
  exact ⟨es, clock, (hb.block b hlt).trans h1, F, hs, hD⟩

theorem SchemaAt.below {n : Nat} {S : Nat → ByteArray} {fl : Nat → Nat} {sb : Nat} {w w' : World} (h : SchemaAt n S fl sb w) (hb : RowKit.Below w.heap.size w w') : SchemaAt n S fl sb w' :=
  ⟨fun i hi => cell_later hb (h.names i hi), fun h0 => cell_later hb (h.none_ h0), fun h0 => by
    obtain ⟨mb, nn, D, h1, h2, h3⟩ := h.some_ h0
    exact ⟨mb, nn, D, cell_later hb h1, ownsMap_below h2 hb, h3⟩⟩

/-- What Definitions hands back. -/
def Listed (n : Nat) (S : Nat → ByteArray) (fl : Nat → Nat) (e : Ending) (w' : World) : Prop :=
  ∃ a c, e = .returned (.slice a n c) ∧ (0 < n → ∃ g, a = some ⟨g, 0, none⟩ ∧ ∀ j, j < n → w'.cell? ⟨g, j, none⟩ = some (.pointer (some ⟨fl (pick n S j), 0, none⟩)))

theorem row_of {n : Nat} {fl : Nat → Nat} {w : World} {base k : Nat} {v : Value} {l : List (Fin n)} {xs : List Value} (hx : xs = l.map fun i : Fin n => Value.pointer (some ⟨fl i, 0, none⟩)) (hk : k = l.length) (h : w.ownsRow base 42 1 v k xs) (h0 : 0 < l.length) :
    ∃ g cap, v = .slice (some ⟨g, 0, none⟩) l.length cap ∧ base ≤ g ∧ g < w.heap.size ∧ ∀ j (hj : j < l.length), w.cell? ⟨g, j, none⟩ = some (encF (fun i : Fin n => fl i) l[j]) ∧ w.frozen? ⟨g, j, none⟩ = false := by
  subst hx hk
  rcases h.2 with ⟨rfl, hk⟩ | ⟨g, cap, cur, rfl, hB, hg, hn, hm, hs, ht⟩
  · omega
  · refine ⟨g, cap, rfl, hB, (Array.getElem?_eq_some_iff.1 hg).1, fun j hj => ⟨?_, frozen_of_row w g j _ _ hg⟩⟩
    have : cur.toList[j]? = (l.map fun i : Fin n => Value.pointer (some ⟨fl i, 0, none⟩))[j]? := by
      rw [← ht, List.getElem?_take, if_pos (by omega)]
    simp only [World.cell?, hg]
    have e2 : (l.map fun i : Fin n => Value.pointer (some ⟨fl i, 0, none⟩))[j]? = some (.pointer (some ⟨fl l[j], 0, none⟩)) := by simp [hj]
    rw [e2] at this
    simpa using this

set_option maxHeartbeats 1000000 in
theorem definitions_some (n : Nat) (S : Nat → ByteArray) (fl : Nat → Nat) (sb : Nat) (w : World) (hn : n ≤ 4096) (h0 : 0 < n) (hS : SchemaAt n S fl sb w) :
    Calls Tryf.prog 15 #[.pointer (some ⟨sb, 0, none⟩)] w fun e w' => Listed n S fl e w' ∧ RowKit.Below w.heap.size w w' := by
  obtain ⟨mb, nn, D, hm, hown, hD⟩ := hS.some_ h0
  have hsz := hD.sz
  -- maps.Values: a box
  have hV : Calls Tryf.prog 21 #[.map (some mb)] w fun e w' => e = .returned (.func (.func 34) #[] #[.pointer (some ⟨w.heap.size, 0, none⟩)]) ∧ w' = w.alloc (.cells #[.map (some mb)] 39) :=
    (callsIn_wide (n := 8)).1 (values_in Fence.wide 8 trivial rfl (some mb) w)
  have hb1 : RowKit.Below w.heap.size w (w.alloc (.cells #[.map (some mb)] 39)) := (RowKit.Below.refl _ _).alloc (Nat.le_refl _) _
  have hC : Calls Tryf.prog 20 #[.func (.func 34) #[] #[.pointer (some ⟨w.heap.size, 0, none⟩)]] (w.alloc (.cells #[.map (some mb)] 39)) fun e W' => ∃ v xs, e = .returned v ∧ (∃ ps, AllOf D ps ∧ xs = ps.map (·.2)) ∧ W'.ownsRow (w.alloc (.cells #[.map (some mb)] 39)).heap.size 42 1 v xs.length (xs.map ptr) ∧ (v = .slice none 0 0 ↔ xs = []) ∧ RowKit.Below (w.alloc (.cells #[.map (some mb)] 39)).heap.size (w.alloc (.cells #[.map (some mb)] 39)) W' := by
    refine (callsIn_wide (n := 8)).1 (collect_in Fence.wide 8 trivial trivial trivial rfl (by omega) w.heap.size (Maps.size D) _ (fun _ => True) (by unfold maxLen; omega) (by omega) _ fun W hW => ?_)
    refine values_stops Fence.wide _ trivial rfl (by omega) w.heap.size mb nn D W ?_ ?_ ?_
    · have := hW.size
      simp at this
      omega
    · refine cell_later hW ?_
      exact (Boxed.new w 39 (.map (some mb))).cell
    · exact ownsMap_below (hown.alloc _) hW
  have HS := hide hS
  have HD := hide hD
  have HB := hide hb1
  clear hown hD hb1
  go_enter Tryf.func15, Tryf.ntmps15
  go_wp2_with (first
    | (go_at_call 21; refine hV.mono ?_; rintro e w1 ⟨rfl, hw⟩; subst hw)
    | (go_at_call 20; refine hC.mono ?_; rintro e w2 ⟨v, xs, rfl, ⟨ps, hall, rfl⟩, hrow, hnil, hb2⟩))
  obtain ⟨l, hl, hx⟩ := HD.out.all hall
  have hll : l.length = n := by rw [hl.length_eq]; simp
  have hb3 : RowKit.Below w.heap.size w w2 := HB.out.trans (hb2.mono (by simp))
  obtain ⟨g, cap, rfl, hg1, hg2, hcell⟩ := row_of (fl := fl) (l := l) (by rw [hx]; simp [ptr, Function.comp_def]) (by rw [hx]; simp) hrow (by omega)
  rw [World.size_alloc] at hg1
  have hnm : ∀ i : Fin n, w2.cell? ⟨fl i, 0, none⟩ = some (.string (S i)) := fun i => cell_later hb3 (HS.out.names i i.2)
  have hlt : ∀ i : Fin n, fl i < w.heap.size := fun i => World.block_lt_of_cell? _ _ (HS.out.names i i.2)
  have hsort := sort_any (fun i : Fin n => fl i) (fun i : Fin n => S i) h0 hn g cap l.toArray w2 (by simpa using hl) (fun i j e => Fin.ext (HD.out.inj i j i.2 j.2 e))
    (fun j hj => by simpa using (hcell j (by simpa using hj)).1) (fun j hj => (hcell j (by simpa using hj)).2) hg2 (fun i => by have := hlt i; omega) hnm
  rw [hll]
  refine hsort.mono ?_
  rintro e w3 ⟨rfl, hrow3, hb4⟩
  have HR3 := hide hrow3
  have HB4 := hide (hb3.trans (hb4.mono (by omega)))
  clear hrow3 hb4 hsort hcell hrow hnil hx hall hb2 hV hC hm hnm hlt hb3
  go_wp2
  go_ret
  refine ⟨⟨_, _, rfl, fun _ => ⟨g, rfl, fun j hj => ?_⟩⟩, HB4.out⟩
  have hj' : j < (ord fun i : Fin n => (S i).data.toList).length := by rw [ord_length]; exact hj
  rw [HR3.out j hj', pick_eq hj']

set_option maxHeartbeats 1000000 in
theorem insertion_none (p : Option Addr) (c : Nat) (fv : Value) (w : World) : Calls Tryf.prog 47 #[.slice p 0 c, .int .i64 0, .int .i64 0, fv] w fun e w' => e = .returned (.tuple #[]) ∧ w' = w := by
  go_enter Tryf.func47, Tryf.ntmps47
  go_wp2
  refine wp_loop_rounds 1 ?_
  rw [rounds_succ]
  go_wp2
  go_end0
  exact ⟨rfl, rfl⟩

set_option maxRecDepth 100000 in
set_option maxHeartbeats 1000000 in
theorem pdq_none (p : Option Addr) (c : Nat) (lim : Int) (fv : Value) (w : World) : Calls Tryf.prog 35 #[.slice p 0 c, .int .i64 0, .int .i64 0, .int .i64 lim, fv] w fun e w' => e = .returned (.tuple #[]) ∧ w' = w := by
  have hi := fun w => insertion_none p c fv w
  go_enter Tryf.func35, Tryf.ntmps35
  go_wp2
  refine wp_loop_rounds 1 ?_
  rw [rounds_succ]
  go_wp2_with (go_at_call 47; refine (hi _).mono ?_; rintro e w' ⟨rfl, rfl⟩)
  (try simp only [Exit.inBlock, Exit.then]); refine bodyPost_ret (results_none rfl _ _ _) rfl ?_
  exact ⟨rfl, rfl⟩

set_option maxHeartbeats 1000000 in
theorem len64_zero (w : World) : Calls Tryf.prog 56 #[.int .u64 0] w fun e w' => (∃ l : Int, e = .returned (.int .i64 l)) ∧ w' = w := by
  go_enter Tryf.func56, Tryf.ntmps56
  go_wp2
  all_goals (go_ret; exact ⟨⟨_, rfl⟩, rfl⟩)

set_option maxHeartbeats 1000000 in
theorem len_zero (w : World) : Calls Tryf.prog 36 #[.int .u64 0] w fun e w' => (∃ l : Int, e = .returned (.int .i64 l)) ∧ w' = w := by
  have h := fun w => len64_zero w
  go_enter Tryf.func36, Tryf.ntmps36
  go_wp2_with (go_at_call 56; refine (h _).mono ?_; rintro e w' ⟨⟨l, rfl⟩, rfl⟩)
  go_ret
  exact ⟨⟨_, rfl⟩, rfl⟩

set_option maxHeartbeats 1000000 in
theorem sort_none (p : Option Addr) (c : Nat) (fv : Value) (w : World) : Calls Tryf.prog 22 #[.slice p 0 c, fv] w fun e w' => e = .returned (.tuple #[]) ∧ w' = w := by
  have h := fun w => len_zero w
  have hp := fun lim w => pdq_none p c lim fv w
  go_enter Tryf.func22, Tryf.ntmps22
  go_wp2_with (first
    | (go_at_call 36; refine (h _).mono ?_; rintro e w' ⟨⟨l, rfl⟩, rfl⟩)
    | (go_at_call 35; refine (hp _ _).mono ?_; rintro e w' ⟨rfl, rfl⟩))
  go_end0
  exact ⟨rfl, rfl⟩

set_option maxHeartbeats 1000000 in
theorem definitions_none (S : Nat → ByteArray) (fl : Nat → Nat) (sb : Nat) (w : World) (hS : SchemaAt 0 S fl sb w) :
    Calls Tryf.prog 15 #[.pointer (some ⟨sb, 0, none⟩)] w fun e w' => Listed 0 S fl e w' ∧ RowKit.Below w.heap.size w w' := by
  have hm := hS.none_ rfl
  have hV : Calls Tryf.prog 21 #[.map none] w fun e w' => e = .returned (.func (.func 34) #[] #[.pointer (some ⟨w.heap.size, 0, none⟩)]) ∧ w' = w.alloc (.cells #[.map none] 39) :=
    (callsIn_wide (n := 8)).1 (values_in Fence.wide 8 trivial rfl none w)
  have hb1 : RowKit.Below w.heap.size w (w.alloc (.cells #[.map none] 39)) := (RowKit.Below.refl _ _).alloc (Nat.le_refl _) _
  have hC : Calls Tryf.prog 20 #[.func (.func 34) #[] #[.pointer (some ⟨w.heap.size, 0, none⟩)]] (w.alloc (.cells #[.map none] 39)) fun e W' => ∃ v xs, e = .returned v ∧ xs = [] ∧ W'.ownsRow (w.alloc (.cells #[.map none] 39)).heap.size 42 1 v xs.length (xs.map ptr) ∧ (v = .slice none 0 0 ↔ xs = []) ∧ RowKit.Below (w.alloc (.cells #[.map none] 39)).heap.size (w.alloc (.cells #[.map none] 39)) W' := by
    refine (callsIn_wide (n := 8)).1 (collect_in Fence.wide 8 trivial trivial trivial rfl (by omega) w.heap.size 0 _ (fun _ => True) (by unfold maxLen; omega) (by omega) _ fun W hW => ?_)
    refine values_stops_nil Fence.wide _ trivial rfl w.heap.size W ?_ ?_
    · have := hW.size
      simp at this
      omega
    · exact cell_later hW (Boxed.new w 39 (.map none)).cell
  have HB := hide hb1
  clear hb1
  go_enter Tryf.func15, Tryf.ntmps15
  go_wp2_with (first
    | (go_at_call 21; refine hV.mono ?_; rintro e w1 ⟨rfl, hw⟩; subst hw)
    | (go_at_call 20; refine hC.mono ?_; rintro e w2 ⟨v, xs, rfl, rfl, hrow, hnil, hb2⟩; obtain rfl : v = .slice none 0 0 := hnil.2 rfl; have HB2 := hide (HB.out.trans (hb2.mono (by simp))); clear hrow hnil hb2)
    | (go_at_call 22; refine (sort_none _ _ _ _).mono ?_; rintro e w3 ⟨rfl, hw⟩; subst hw))
  go_ret
  exact ⟨⟨_, _, rfl, fun h => absurd h (by omega)⟩, HB2.out⟩

theorem definitions_any (n : Nat) (S : Nat → ByteArray) (fl : Nat → Nat) (sb : Nat) (w : World) (hn : n ≤ 4096) (hS : SchemaAt n S fl sb w) :
    Calls Tryf.prog 15 #[.pointer (some ⟨sb, 0, none⟩)] w fun e w' => Listed n S fl e w' ∧ RowKit.Below w.heap.size w w' := by
  by_cases h0 : n = 0
  · subst h0; exact definitions_none S fl sb w hS
  · exact definitions_some n S fl sb w hn (by omega) hS
end Go.Proofs.Qxb6613654aFmt.Defs
