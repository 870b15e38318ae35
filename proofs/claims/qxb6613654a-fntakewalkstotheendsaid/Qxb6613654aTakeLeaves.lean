/-
  WALKS over the seat's program, by the prover: the parser's take, next and the maker.
-/
import Derived.Test.Qxb6613654aRows
import Derived.WalkKit
import Derived.WalkSpells
import Derived.WalkLawsBesides
import Derived.RegionTactic
import Derived.BigRegion
import Derived.Deep.OwnRows
import Derived.Deep.QuietTactic
import Derived.BigQuiet
namespace Go.Proofs.Qxb6613654a.Take
open Go.RowKit Go.Deep

set_option maxHeartbeats 400000 in
theorem next_any (b : Nat) (x : Int) (w : World) (h1 : w.cell? ⟨b, 1, none⟩ = some (.int .i64 x)) :
    Calls Try.prog 9 #[.pointer (some ⟨b, 0, none⟩)] w fun e w' => e = .returned (.int .i64 x) ∧ w' = w := by
  go_enter Try.func9, Try.ntmps9
  go_wp2
  go_ret
  exact ⟨rfl, rfl⟩

set_option maxHeartbeats 400000 in
/-- take at a token that is not the end. -/
theorem take_on (b g n c : Nat) (j : Nat) (s : ByteArray) (l : Int) (w : World) (hj : (j : Int) < (n : Int)) (hn : n ≤ 65536)
    (h0 : w.cell? ⟨b, 0, none⟩ = some (.slice (some ⟨g, 0, none⟩) n c)) (h1 : w.cell? ⟨b, 1, none⟩ = some (.int .i64 j)) (f1 : w.frozen? ⟨b, 1, none⟩ = false)
    (t0 : w.cell? ⟨g, j * 2, none⟩ = some (.string s)) (t1 : w.cell? ⟨g, j * 2 + 1, none⟩ = some (.int .i64 l)) (hs : s.toList.isEmpty = false) :
    Calls Try.prog 17 #[.pointer (some ⟨b, 0, none⟩)] w fun e w' => e = .returned (.agg #[.string s, .int .i64 l]) ∧ Below w.heap.size (w.setCell ⟨b, 1, none⟩ (.int .i64 (j + 1))) w' := by
  have hb : b < w.heap.size := World.block_lt_of_cell? _ _ h0
  have hg : g < w.heap.size := World.block_lt_of_cell? _ _ t0
  go_enter Try.func17, Try.ntmps17
  go_wp2
  go_region
  all_goals go_wp2
  exact bodyPost_ret (v := .agg #[.string s, .int .i64 l]) (by simp [results, Try.results17, go_sem]) rfl
    ⟨rfl, (((Below.refl _ _).alloc (by simp) _).alloc (by simp) _).drew⟩

set_option maxHeartbeats 400000 in
/-- take at the end: it stays. -/
theorem take_end (b g n c : Nat) (j : Nat) (s : ByteArray) (l : Int) (w : World) (hj : (j : Int) < (n : Int))
    (h0 : w.cell? ⟨b, 0, none⟩ = some (.slice (some ⟨g, 0, none⟩) n c)) (h1 : w.cell? ⟨b, 1, none⟩ = some (.int .i64 j))
    (t0 : w.cell? ⟨g, j * 2, none⟩ = some (.string s)) (t1 : w.cell? ⟨g, j * 2 + 1, none⟩ = some (.int .i64 l)) (hs : s.toList.isEmpty = true) :
    Calls Try.prog 17 #[.pointer (some ⟨b, 0, none⟩)] w fun e w' => e = .returned (.agg #[.string s, .int .i64 l]) ∧ Below w.heap.size w w' := by
  have hb : b < w.heap.size := World.block_lt_of_cell? _ _ h0
  have hg : g < w.heap.size := World.block_lt_of_cell? _ _ t0
  go_enter Try.func17, Try.ntmps17
  go_wp2
  go_region
  all_goals go_wp2
  exact bodyPost_ret (v := .agg #[.string s, .int .i64 l]) (by simp [results, Try.results17, go_sem]) rfl
    ⟨rfl, (((Below.refl _ _).alloc (by simp) _).alloc (by simp) _).drew⟩

set_option maxHeartbeats 400000 in
theorem zztake_on (b g n c : Nat) (j : Nat) (s : ByteArray) (l : Int) (w : World) (hj : (j : Int) < (n : Int)) (hn : n ≤ 65536)
    (h0 : w.cell? ⟨b, 0, none⟩ = some (.slice (some ⟨g, 0, none⟩) n c)) (h1 : w.cell? ⟨b, 1, none⟩ = some (.int .i64 j)) (f1 : w.frozen? ⟨b, 1, none⟩ = false)
    (t0 : w.cell? ⟨g, j * 2, none⟩ = some (.string s)) (t1 : w.cell? ⟨g, j * 2 + 1, none⟩ = some (.int .i64 l)) (hs : s.toList.isEmpty = false) :
    Calls Try.prog 8 #[.pointer (some ⟨b, 0, none⟩)] w fun e w' => e = .returned (.tuple #[.string s, .int .i64 l]) ∧ Below w.heap.size (w.setCell ⟨b, 1, none⟩ (.int .i64 (j + 1))) w' := by
  go_enter Try.func8, Try.ntmps8
  go_wp2_with fail
  refine (take_on b g n c j s l w hj hn h0 h1 f1 t0 t1 hs).mono ?_
  rintro e w1 ⟨rfl, hb1⟩
  have hz := hb1.size
  go_wp2
  go_region
  all_goals (try go_wp2)
  all_goals go_ret2
  exact ⟨rfl, (hb1.trans ((Below.refl _ _).alloc (by simpa using hz) _)).drew⟩

set_option maxHeartbeats 400000 in
theorem zztake_end (b g n c : Nat) (j : Nat) (s : ByteArray) (l : Int) (w : World) (hj : (j : Int) < (n : Int))
    (h0 : w.cell? ⟨b, 0, none⟩ = some (.slice (some ⟨g, 0, none⟩) n c)) (h1 : w.cell? ⟨b, 1, none⟩ = some (.int .i64 j))
    (t0 : w.cell? ⟨g, j * 2, none⟩ = some (.string s)) (t1 : w.cell? ⟨g, j * 2 + 1, none⟩ = some (.int .i64 l)) (hs : s.toList.isEmpty = true) :
    Calls Try.prog 8 #[.pointer (some ⟨b, 0, none⟩)] w fun e w' => e = .returned (.tuple #[.string s, .int .i64 l]) ∧ Below w.heap.size w w' := by
  go_enter Try.func8, Try.ntmps8
  go_wp2_with fail
  refine (take_end b g n c j s l w hj h0 h1 t0 t1 hs).mono ?_
  rintro e w1 ⟨rfl, hb1⟩
  have hz := hb1.size
  go_wp2
  go_region
  all_goals (try go_wp2)
  all_goals go_ret2
  exact ⟨rfl, (hb1.trans ((Below.refl _ _).alloc (by simpa using hz) _)).drew⟩

/-- The row of tokens, so far: token i of the first k is texts[i] at lines[i], the others zero. -/
def toks (S : Nat → ByteArray) (Z : Nat → Int) (k : Nat) (i : Nat) : Value :=
  if i / 2 < k then (if i % 2 = 0 then .string (S (i / 2)) else .int .i64 (Z (i / 2))) else (if i % 2 = 0 then .string ⟨#[]⟩ else .int .i64 0)

theorem Try.info56 : (Try.prog.info? 56).map (fun i => (i.zero, i.size, i.bytes)) = some (some (.agg #[.string ⟨#[]⟩, .int .i64 0]), 2, 24) := by kernel_rfl

theorem made_toks (S : Nat → ByteArray) (Z : Nat → Int) (n : Nat) (w : World) : (w.alloc (.cells (madeCells #[.string ⟨#[]⟩, .int .i64 0] (n * 2)) 56)).rowIs w.heap.size 56 (n * 2) (toks S Z 0) := by
  have h := World.rowIs_alloc w (madeCells #[.string ⟨#[]⟩, .int .i64 0] (n * 2)) 56 (toks S Z 0) (by
    intro i hi
    rw [size_madeCells] at hi
    simp only [madeCells, toks]
    rcases Nat.mod_two_eq_zero_or_one i with h | h <;> simp [hi, h])
  rwa [size_madeCells] at h

theorem toks_step (S : Nat → ByteArray) (Z : Nat → Int) (n k : Nat) (g : Nat) (w : World) (h : w.rowIs g 56 (n * 2) (toks S Z k)) :
    ((w.setCell ⟨g, k * 2, none⟩ (.string (S k))).setCell ⟨g, k * 2 + 1, none⟩ (.int .i64 (Z k))).rowIs g 56 (n * 2) (toks S Z (k + 1)) := by
  refine ((h.set (k * 2) _).set (k * 2 + 1) _).congr fun i _ => ?_
  simp only [toks]
  by_cases h1 : i = k * 2 + 1
  · subst h1; simp [show (k * 2 + 1) / 2 = k by omega, show (k * 2 + 1) % 2 = 1 by omega]
  · by_cases h2 : i = k * 2
    · subst h2; simp
    · have : i / 2 ≠ k := by omega
      by_cases h3 : i / 2 < k
      · simp [h1, h2, h3, show i / 2 < k + 1 by omega]
      · simp [h1, h2, h3, show ¬ i / 2 < k + 1 by omega]

set_option maxHeartbeats 400000 in
theorem new_any (b0 o0 b1 o1 n c0 c1 : Nat) (S : Nat → ByteArray) (Z : Nat → Int) (x : Int) (w : World) (hn : n ≤ 65536)
    (hS : ∀ i, i < n → w.cell? ⟨b0, o0 + i, none⟩ = some (.string (S i))) (hZ : ∀ i, i < n → w.cell? ⟨b1, o1 + i, none⟩ = some (.int .i64 (Z i))) :
    Calls Try.prog 7 #[.slice (some ⟨b0, o0, none⟩) n c0, .slice (some ⟨b1, o1, none⟩) n c1, .int .i64 x] w fun e w' => ∃ p g, e = .returned (.pointer (some ⟨p, 0, none⟩)) ∧
      w.heap.size ≤ p ∧ w.heap.size ≤ g ∧ p ≠ g ∧ w'.cell? ⟨p, 0, none⟩ = some (.slice (some ⟨g, 0, none⟩) n n) ∧ w'.cell? ⟨p, 1, none⟩ = some (.int .i64 x) ∧ w'.frozen? ⟨p, 1, none⟩ = false ∧
      w'.rowIs g 56 (n * 2) (toks S Z n) ∧ Below w.heap.size w w' := by
  obtain ⟨i0, hi, hz0, hz1, hz2⟩ := info_parts Try.info56
  have hmk : ∀ W : World, (Instr.makeSlice 54 (.int .i64 (n : Int)) (.int .i64 (n : Int))).run Try.prog W = .ok (.slice (some ⟨W.heap.size, 0, none⟩) n n) (W.alloc (.cells (madeCells #[.string ⟨#[]⟩, .int .i64 0] (n * 2)) 56)) := fun W => by
    have h := run_make (P := Try.prog) W 54 56 i0 _ Try.underlying54 hi hz0 .i64 .i64 n n (by omega) (by omega) (by rw [hz2]; omega) (by omega)
    rw [hz1] at h
    exact h
  clear hi hz0 hz1 hz2
  have hrow := made_toks S Z n w
  obtain ⟨W0, hW0⟩ : ∃ W0, W0 = w.alloc (.cells (madeCells #[.string ⟨#[]⟩, .int .i64 0] (n * 2)) 56) := ⟨_, rfl⟩
  rw [← hW0] at hrow
  have hbel : Below w.heap.size w W0 := by rw [hW0]; exact (Below.refl _ _).alloc (Nat.le_refl _) _
  have HS : Hid (∀ i, i < n → w.cell? ⟨b0, o0 + i, none⟩ = some (.string (S i))) := hS
  have HZ : Hid (∀ i, i < n → w.cell? ⟨b1, o1 + i, none⟩ = some (.int .i64 (Z i))) := hZ
  clear hS hZ
  go_enter Try.func7, Try.ntmps7
  go_wp2
  rw [← hW0]
  have HW : Hid (W0 = w.alloc (.cells (madeCells #[.string ⟨#[]⟩, .int .i64 0] (n * 2)) 56)) := hW0
  clear hW0 hmk
  go_loopw [14] (fun i wr => ∃ k : Nat, k ≤ n ∧ i = .int .i64 k ∧ wr.rowIs w.heap.size 56 (n * 2) (toks S Z k) ∧ Below w.heap.size w wr) (fun i _ => n - (intOf i).toNat)
  case atStart => exact ⟨0, Nat.zero_le _, rfl, hrow, hbel⟩
  case round =>
    obtain ⟨k, hk, rfl, hr, hnx⟩ := hrel
    have hz := hnx.size
    clear hrow hbel
    by_cases hlt : k < n
    · have hlt' : (k : Int) < (n : Int) := by omega
      have c0 : wr.cell? ⟨b0, o0 + k, none⟩ = some (.string (S k)) := (hnx.cell (World.block_lt_of_cell? _ _ (HS.out k hlt))).trans (HS.out k hlt)
      have c1 : wr.cell? ⟨b1, o1 + k, none⟩ = some (.int .i64 (Z k)) := (hnx.cell (World.block_lt_of_cell? _ _ (HZ.out k hlt))).trans (HZ.out k hlt)
      have d0 := hr.cell (i := k * 2) (by omega)
      have d1 := hr.cell (i := k * 2 + 1) (by omega)
      have f0 := hr.frozen (k * 2)
      have f1 := hr.frozen (k * 2 + 1)
      have R := toks_step S Z n k w.heap.size wr hr
      obtain ⟨v0, e0⟩ : ∃ v, v = toks S Z k (k * 2) := ⟨_, rfl⟩
      obtain ⟨v1, e1⟩ : ∃ v, v = toks S Z k (k * 2 + 1) := ⟨_, rfl⟩
      rw [← e0] at d0; rw [← e1] at d1
      clear e0 e1 hr
      go_wp2
      go_region
      all_goals (try go_wp2)
      go_roundw
      case rel => exact ⟨k + 1, by omega, by go_num, R, ((hnx.setCell (Nat.le_refl _) _).setCell (Nat.le_refl _) _).drew⟩
      case measure => simp [intOf]; omega
    · obtain rfl : k = n := by omega
      have hrl := hr.lt
      go_wp2
      go_ret
      refine ⟨wr.heap.size, w.heap.size, rfl, hz, Nat.le_refl _, by omega, by simp, by simp, ?_, hr.alloc _, hnx.alloc hz _⟩
      simp
end Go.Proofs.Qxb6613654a.Take
