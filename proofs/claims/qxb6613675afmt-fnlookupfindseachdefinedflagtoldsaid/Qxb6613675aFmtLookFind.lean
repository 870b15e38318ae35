/-
  By the prover: THE WALKS of Lookup's closure, slices.IndexFunc at it, and Lookup.
-/
import Derived.Test.Qxb6613675aFmtLookBytes
namespace Go.Proofs.Qxb6613675aFmt.Look
open Go.RowKit

set_option maxHeartbeats 400000 in
theorem same_any (f bx : Nat) (s q : ByteArray) (w : World) (h0 : w.cell? ⟨f, 0, none⟩ = some (.string s)) (h1 : w.cell? ⟨bx, 0, none⟩ = some (.string q)) :
    Calls Tryf.prog 25 #[.pointer (some ⟨f, 0, none⟩), .pointer (some ⟨bx, 0, none⟩)] w fun e w' => e = .returned (.bool (s.toList == q.toList)) ∧ Below w.heap.size w w' := by
  go_enter Tryf.func25, Tryf.ntmps25
  go_wp2
  go_quiet (fail)
  go_wp2
  go_ret
  exact ⟨rfl, (Below.refl _ _).trans ⟨rfl, rfl, rfl, Nat.le_refl _, fun _ _ => rfl⟩⟩

/-- The flags so far: a row of pointers, each to a block whose first cell is the name. -/
structure Row (S : Nat → ByteArray) (fl : Nat → Nat) (k : Nat) (a : Option Addr) (w : World) : Prop where
  row : 0 < k → ∃ g, a = some ⟨g, 0, none⟩ ∧ ∀ i, i < k → w.cell? ⟨g, i, none⟩ = some (.pointer (some ⟨fl i, 0, none⟩))
  name : ∀ i, i < k → w.cell? ⟨fl i, 0, none⟩ = some (.string (S i))

theorem Row.below {S : Nat → ByteArray} {fl : Nat → Nat} {k : Nat} {a : Option Addr} {w w' : World} (h : Row S fl k a w) (hb : Below w.heap.size w w') : Row S fl k a w' :=
  ⟨fun hk => by
    obtain ⟨g, e, hc⟩ := h.row hk
    exact ⟨g, e, fun i hi => cell_later hb (hc i hi)⟩, fun i hi => cell_later hb (h.name i hi)⟩

set_option maxHeartbeats 1000000 in
theorem index_miss (S : Nat → ByteArray) (fl : Nat → Nat) (k c : Nat) (a : Option Addr) (bx : Nat) (q : ByteArray) (w : World) (hk : k ≤ 1024) (hR : Row S fl k a w) (hq : w.cell? ⟨bx, 0, none⟩ = some (.string q))
    (hne : ∀ i, i < k → (S i).toList ≠ q.toList) :
    Calls Tryf.prog 24 #[.slice a k c, .func (.func 25) #[] #[.pointer (some ⟨bx, 0, none⟩)]] w fun e w' => e = .returned (.int .i64 (-1)) ∧ Below w.heap.size w w' := by
  have HR := hide hR
  have HQ := hide hq
  have HN := hide hne
  clear hR hq hne
  go_enter Tryf.func24, Tryf.ntmps24
  go_wp2
  go_loopw [8] (fun i wr => ∃ m : Nat, m ≤ k ∧ i = .int .i64 m ∧ Below w.heap.size w wr) (fun i _ => k - (intOf i).toNat)
  case atStart => exact ⟨0, Nat.zero_le _, rfl, Below.refl _ _⟩
  case round =>
    obtain ⟨m, hm, rfl, hb⟩ := hrel
    by_cases hlt : m < k
    · obtain ⟨g, rfl, hc⟩ := HR.out.row (by omega)
      have HB := hide hb
      have c1 : wr.cell? ⟨g, m, none⟩ = some (.pointer (some ⟨fl m, 0, none⟩)) := cell_later hb (hc m hlt)
      have HT := hide (same_any (fl m) bx (S m) q wr (cell_later hb (HR.out.name m hlt)) (cell_later hb HQ.out))
      have hd : ((S m).toList == q.toList) = false := by have := HN.out m hlt; simpa using this
      clear hb hc
      go_wp2_with (go_at_call 25; refine HT.out.mono ?_; rintro e w1 ⟨rfl, hb1⟩; rw [hd])
      go_roundw
      case rel => exact ⟨m + 1, by omega, by go_num, HB.out.trans (hb1.mono HB.out.size)⟩
      case measure => simp [intOf]; omega
    · go_wp2
      go_ret
      exact ⟨rfl, hb⟩

set_option maxHeartbeats 1000000 in
theorem index_hit (S : Nat → ByteArray) (fl : Nat → Nat) (k c : Nat) (a : Option Addr) (bx : Nat) (q : ByteArray) (j : Nat) (w : World) (hk : k ≤ 1024) (hR : Row S fl k a w) (hq : w.cell? ⟨bx, 0, none⟩ = some (.string q))
    (hj : j < k) (he : (S j).toList = q.toList) (hne : ∀ i, i < j → (S i).toList ≠ q.toList) :
    Calls Tryf.prog 24 #[.slice a k c, .func (.func 25) #[] #[.pointer (some ⟨bx, 0, none⟩)]] w fun e w' => e = .returned (.int .i64 j) ∧ Below w.heap.size w w' := by
  have HR := hide hR
  have HQ := hide hq
  have HN := hide hne
  have HE := hide he
  clear hR hq hne he
  go_enter Tryf.func24, Tryf.ntmps24
  go_wp2
  go_loopw [8] (fun i wr => ∃ m : Nat, m ≤ j ∧ i = .int .i64 m ∧ Below w.heap.size w wr) (fun i _ => k - (intOf i).toNat)
  case atStart => exact ⟨0, Nat.zero_le _, rfl, Below.refl _ _⟩
  case round =>
    obtain ⟨m, hm, rfl, hb⟩ := hrel
    obtain ⟨g, rfl, hc⟩ := HR.out.row (by omega)
    have hlt : m < k := by omega
    have HB := hide hb
    have c1 : wr.cell? ⟨g, m, none⟩ = some (.pointer (some ⟨fl m, 0, none⟩)) := cell_later hb (hc m hlt)
    have HT := hide (same_any (fl m) bx (S m) q wr (cell_later hb (HR.out.name m hlt)) (cell_later hb HQ.out))
    by_cases hmj : m < j
    · have hd : ((S m).toList == q.toList) = false := by have := HN.out m hmj; simpa using this
      clear hb hc
      go_wp2_with (go_at_call 25; refine HT.out.mono ?_; rintro e w1 ⟨rfl, hb1⟩; rw [hd])
      go_roundw
      case rel => exact ⟨m + 1, by omega, by go_num, HB.out.trans (hb1.mono HB.out.size)⟩
      case measure => simp [intOf]; omega
    · obtain rfl : m = j := by omega
      have hd : ((S m).toList == q.toList) = true := by have := HE.out; simpa using this
      clear hb hc
      go_wp2_with (go_at_call 25; refine HT.out.mono ?_; rintro e w1 ⟨rfl, hb1⟩; rw [hd])
      go_ret
      exact ⟨rfl, HB.out.trans (hb1.mono HB.out.size)⟩

set_option maxHeartbeats 1000000 in
theorem lookup_miss (S : Nat → ByteArray) (fl : Nat → Nat) (k c : Nat) (a : Option Addr) (fs : Nat) (q : ByteArray) (w : World) (hk : k ≤ 1024) (hR : Row S fl k a w) (hf : w.cell? ⟨fs, 0, none⟩ = some (.slice a k c))
    (hne : ∀ i, i < k → (S i).toList ≠ q.toList) :
    Calls Tryf.prog 12 #[.pointer (some ⟨fs, 0, none⟩), .string q] w fun e w' => e = .returned (.pointer none) ∧ Below w.heap.size w w' := by
  have hfs : fs < w.heap.size := World.block_lt_of_cell? _ _ hf
  have hb0 : Below w.heap.size w (w.alloc (.cells #[.string q] 9)) := (Below.refl _ _).alloc (Nat.le_refl _) _
  have HI := hide (index_miss S fl k c a w.heap.size q (w.alloc (.cells #[.string q] 9)) hk (hR.below hb0) (by simp) hne)
  clear hR hne hb0
  go_enter Tryf.func12, Tryf.ntmps12
  go_wp2_with (go_at_call 24; refine HI.out.mono ?_; rintro e w1 ⟨rfl, hb1⟩)
  go_ret
  exact ⟨rfl, ((Below.refl _ _).alloc (Nat.le_refl _) _).trans (hb1.mono (by simp))⟩

set_option maxHeartbeats 1000000 in
theorem lookup_hit (S : Nat → ByteArray) (fl : Nat → Nat) (k c : Nat) (a : Option Addr) (fs : Nat) (q : ByteArray) (j : Nat) (w : World) (hk : k ≤ 1024) (hR : Row S fl k a w) (hf : w.cell? ⟨fs, 0, none⟩ = some (.slice a k c))
    (hj : j < k) (he : (S j).toList = q.toList) (hne : ∀ i, i < j → (S i).toList ≠ q.toList) :
    Calls Tryf.prog 12 #[.pointer (some ⟨fs, 0, none⟩), .string q] w fun e w' => e = .returned (.pointer (some ⟨fl j, 0, none⟩)) ∧ Below w.heap.size w w' := by
  have hfs : fs < w.heap.size := World.block_lt_of_cell? _ _ hf
  have hb0 : Below w.heap.size w (w.alloc (.cells #[.string q] 9)) := (Below.refl _ _).alloc (Nat.le_refl _) _
  have HI := hide (index_hit S fl k c a w.heap.size q j (w.alloc (.cells #[.string q] 9)) hk (hR.below hb0) (by simp) hj he hne)
  obtain ⟨g, rfl, hc⟩ := hR.row (by omega)
  have cj := hc j hj
  have i1 : (j : Int) < (k : Int) := by omega
  have H1 := hide (And.intro hf cj)
  clear hR hne hb0 he hc cj
  go_enter Tryf.func12, Tryf.ntmps12
  go_wp2_with (go_at_call 24; refine HI.out.mono ?_; rintro e w1 ⟨rfl, hb1⟩; have hb2 := hide (((Below.refl w.heap.size w).alloc (Nat.le_refl _) (.cells #[.string q] 9)).trans (hb1.mono (by simp))); have c0 := cell_later hb2.out H1.out.1; have c1 := cell_later hb2.out H1.out.2; clear hb1)
  go_ret
  exact ⟨rfl, hb2.out⟩
end Go.Proofs.Qxb6613675aFmt.Look
