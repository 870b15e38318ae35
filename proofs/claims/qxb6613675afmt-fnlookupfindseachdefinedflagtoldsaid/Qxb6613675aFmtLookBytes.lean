/-
  WALKS over the seat's program, by the prover: zzBytes, zzBytesOver, zzDistinct: they only read.
-/
import Derived.Test.Qxb6613675aFmtRows
import Derived.WalkKit
import Derived.WalkSpells
import Derived.WalkLawsBesides
import Derived.RegionTactic
import Derived.Deep.QuietTactic
import Derived.BigQuiet
namespace Go.Proofs.Qxb6613675aFmt.Look
open Go.RowKit

theorem hide {p : Prop} (h : p) : Hid p := h

/-- What a walk is told of a []string that came in: where it has an element it lies in a row of cells. -/
def Strs (w : World) (a : Option Addr) (n : Nat) (S : Nat → ByteArray) : Prop :=
  0 < n → ∃ b off, a = some ⟨b, off, none⟩ ∧ ∀ i, i < n → w.cell? ⟨b, off + i, none⟩ = some (.string (S i)) ∧ (S i).size ≤ maxLen

/-- It returned a bool. -/
def RetBool (e : Ending) : Prop := ∃ r, e = .returned (.bool r)

set_option maxHeartbeats 400000 in
theorem bytes_none (a : Option Addr) (c : Nat) (q : ByteArray) (w : World) (hq : q.size ≤ maxLen) :
    Calls Tryf.prog 7 #[.slice a 0 c, .string q] w fun e w' => RetBool e ∧ w' = w := by
  unfold maxLen at hq
  go_enter Tryf.func7, Tryf.ntmps7
  go_wp2
  refine wp_loop_rounds 1 ?_
  rw [rounds_succ]
  go_wp2
  all_goals (go_ret; exact ⟨⟨_, rfl⟩, rfl⟩)

set_option maxHeartbeats 400000 in
theorem bytes_some (b off n c : Nat) (S : Nat → ByteArray) (q : ByteArray) (w : World) (hn : n ≤ maxLen) (hq : q.size ≤ maxLen)
    (hc : ∀ i, i < n → w.cell? ⟨b, off + i, none⟩ = some (.string (S i)) ∧ (S i).size ≤ maxLen) :
    Calls Tryf.prog 7 #[.slice (some ⟨b, off, none⟩) n c, .string q] w fun e w' => RetBool e ∧ w' = w := by
  unfold maxLen at hq hn hc
  go_enter Tryf.func7, Tryf.ntmps7
  go_wp2
  · go_ret; exact ⟨⟨_, rfl⟩, rfl⟩
  · go_loop [5, 6] (fun z i => ∃ (j : Nat) (s : Int), j ≤ n ∧ i = .int .i64 j ∧ z = .int .i64 s ∧ 0 ≤ s ∧ s ≤ 1048576) (fun _ i => n - (intOf i).toNat)
    case atStart => exact ⟨0, n, Nat.zero_le _, rfl, rfl, by omega, by omega⟩
    case round =>
      obtain ⟨j, s, hj, rfl, rfl, h0, h1⟩ := hrel
      have hcell : j < n → w.cell? ⟨b, off + j, none⟩ = some (.string (S j)) := fun h => (hc j h).1
      have hsz : j < n → (S j).size ≤ 9223372036854775807 := fun h => (hc j h).2
      clear hc
      go_wp2
      all_goals first
        | (go_ret; exact ⟨⟨_, rfl⟩, rfl⟩)
        | (go_round
           case rel => exact ⟨j + 1, s + (S j).size, by omega, by go_num, rfl, by omega, by omega⟩
           case measure => simp [intOf]; omega)

theorem bytes_any (a : Option Addr) (n c : Nat) (S : Nat → ByteArray) (q : ByteArray) (w : World) (hn : n ≤ maxLen) (hq : q.size ≤ maxLen) (hs : Strs w a n S) :
    Calls Tryf.prog 7 #[.slice a n c, .string q] w fun e w' => RetBool e ∧ w' = w := by
  by_cases h0 : n = 0
  · subst h0; exact bytes_none a c q w hq
  · obtain ⟨b, off, rfl, hc⟩ := hs (by omega)
    exact bytes_some b off n c S q w hn hq hc

set_option maxHeartbeats 400000 in
theorem over_none (a : Option Addr) (c : Nat) (st : Int) (w : World) :
    Calls Tryf.prog 8 #[.slice a 0 c, .int .i64 st, .int .i64 1048576] w fun e w' => RetBool e ∧ w' = w := by
  go_enter Tryf.func8, Tryf.ntmps8
  go_wp2
  · go_ret; exact ⟨⟨_, rfl⟩, rfl⟩
  · refine wp_loop_rounds 1 ?_
    rw [rounds_succ]
    go_wp2
    all_goals (go_ret; exact ⟨⟨_, rfl⟩, rfl⟩)

set_option maxHeartbeats 400000 in
theorem over_some (b off n c : Nat) (S : Nat → ByteArray) (st : Int) (w : World) (hn : n ≤ maxLen) (h0 : 0 ≤ st)
    (hc : ∀ i, i < n → w.cell? ⟨b, off + i, none⟩ = some (.string (S i)) ∧ (S i).size ≤ maxLen) :
    Calls Tryf.prog 8 #[.slice (some ⟨b, off, none⟩) n c, .int .i64 st, .int .i64 1048576] w fun e w' => RetBool e ∧ w' = w := by
  unfold maxLen at hn hc
  go_enter Tryf.func8, Tryf.ntmps8
  go_wp2
  · go_ret; exact ⟨⟨_, rfl⟩, rfl⟩
  · go_loop [7, 8] (fun z i => ∃ (j : Nat) (s : Int), j ≤ n ∧ i = .int .i64 j ∧ z = .int .i64 s ∧ 0 ≤ s ∧ s ≤ 1048576) (fun _ i => n - (intOf i).toNat)
    case atStart => exact ⟨0, st, Nat.zero_le _, rfl, rfl, by omega, by omega⟩
    case round =>
      obtain ⟨j, s, hj, rfl, rfl, g0, g1⟩ := hrel
      have hcell : j < n → w.cell? ⟨b, off + j, none⟩ = some (.string (S j)) := fun h => (hc j h).1
      have hsz : j < n → (S j).size ≤ 9223372036854775807 := fun h => (hc j h).2
      clear hc
      go_wp2
      all_goals first
        | (go_ret; exact ⟨⟨_, rfl⟩, rfl⟩)
        | (go_round
           case rel => exact ⟨j + 1, s + (S j).size, by omega, by go_num, rfl, by omega, by omega⟩
           case measure => simp [intOf]; omega)

theorem over_any (a : Option Addr) (n c : Nat) (S : Nat → ByteArray) (st : Int) (w : World) (hn : n ≤ maxLen) (h0 : 0 ≤ st) (hs : Strs w a n S) :
    Calls Tryf.prog 8 #[.slice a n c, .int .i64 st, .int .i64 1048576] w fun e w' => RetBool e ∧ w' = w := by
  by_cases hz : n = 0
  · subst hz; exact over_none a c st w
  · obtain ⟨b, off, rfl, hc⟩ := hs (by omega)
    exact over_some b off n c S st w hn h0 hc

/-- It returned a bool; where that is true the first n strings differ from one another. -/
def RetDist (S : Nat → ByteArray) (n : Nat) (e : Ending) : Prop := ∃ r, e = .returned (.bool r) ∧ (r = true → ∀ i j, i < n → j < i → (S i).toList ≠ (S j).toList)

set_option maxHeartbeats 400000 in
theorem dist_none (a : Option Addr) (c : Nat) (S : Nat → ByteArray) (w : World) :
    Calls Tryf.prog 9 #[.slice a 0 c, .int .i64 0] w fun e w' => RetDist S 0 e ∧ Below w.heap.size w w' := by
  go_enter Tryf.func9, Tryf.ntmps9
  go_wp2
  refine wp_loop_rounds 1 ?_
  rw [rounds_succ]
  go_wp2
  go_ret
  exact ⟨⟨_, rfl, fun _ i j hi => absurd hi (by omega)⟩, Below.refl _ _⟩

set_option maxHeartbeats 1000000 in
theorem dist_some (b off n c : Nat) (S : Nat → ByteArray) (w : World) (hn : n ≤ 1024)
    (hc : ∀ i, i < n → w.cell? ⟨b, off + i, none⟩ = some (.string (S i))) :
    Calls Tryf.prog 9 #[.slice (some ⟨b, off, none⟩) n c, .int .i64 n] w fun e w' => RetDist S n e ∧ Below w.heap.size w w' := by
  have HC := hide hc
  clear hc
  go_enter Tryf.func9, Tryf.ntmps9
  go_wp2
  go_loopw [5] (fun i wr => ∃ k : Nat, k ≤ n ∧ i = .int .i64 k ∧ Hid (∀ i j, i < k → j < i → (S i).toList ≠ (S j).toList) ∧ Below w.heap.size w wr) (fun i _ => n - (intOf i).toNat)
  case atStart => exact ⟨0, Nat.zero_le _, rfl, fun i j hi => absurd hi (by omega), Below.refl _ _⟩
  case round =>
    obtain ⟨k, hk, rfl, HD, hb⟩ := hrel
    by_cases hlt : k < n
    · have ck : wr.cell? ⟨b, off + k, none⟩ = some (.string (S k)) := (hb.cell (World.block_lt_of_cell? _ _ (HC.out k hlt))).trans (HC.out k hlt)
      have HB := hide hb
      clear hb
      go_wp2
      go_loopw [6] (fun i wq => ∃ m : Nat, m ≤ k ∧ i = .int .i64 m ∧ Hid (∀ j, j < m → (S k).toList ≠ (S j).toList) ∧ Below w.heap.size w wq) (fun i _ => k - (intOf i).toNat)
      case atStart => exact ⟨0, Nat.zero_le _, rfl, fun j hj => absurd hj (by omega), HB.out⟩
      case round =>
        obtain ⟨m, hm, rfl, HE, hb2⟩ := hrel
        clear ck HB
        have ck : wr.cell? ⟨b, off + k, none⟩ = some (.string (S k)) := (hb2.cell (World.block_lt_of_cell? _ _ (HC.out k hlt))).trans (HC.out k hlt)
        have HB := hide hb2
        by_cases hmk : m < k
        · have cm : wr.cell? ⟨b, off + m, none⟩ = some (.string (S m)) := (hb2.cell (World.block_lt_of_cell? _ _ (HC.out m (by omega)))).trans (HC.out m (by omega))
          have i1 : (k : Int) < (n : Int) := by omega
          have i2 : (m : Int) < (n : Int) := by omega
          clear hb2
          go_wp2
          go_quiet (fail)
          go_wp2
          · go_ret
            exact ⟨⟨false, rfl, fun h => by cases h⟩, HB.out.trans ⟨rfl, rfl, rfl, Nat.le_refl _, fun _ _ => rfl⟩⟩
          · have hne : ((S k).toList == (S m).toList) = false := by assumption
            go_roundw
            case rel => exact ⟨m + 1, by omega, by go_num, fun j hj => (by
              by_cases e : j = m
              · subst e; simpa using hne
              · exact HE.out j (by omega)), HB.out.trans ⟨rfl, rfl, rfl, Nat.le_refl _, fun _ _ => rfl⟩⟩
            case measure => simp [intOf]; omega
        · clear hb2
          go_wp2
          go_roundw
          case rel => exact ⟨k + 1, by omega, by go_num, fun i j hi hj => (by
            by_cases e : i = k
            · subst e; exact HE.out j (by omega)
            · exact HD.out i j (by omega) hj), HB.out⟩
          case measure => simp [intOf]; omega
    · go_wp2
      go_ret
      exact ⟨⟨_, rfl, fun _ i j hi hj => HD.out i j (by omega) hj⟩, hb⟩

theorem dist_any (a : Option Addr) (n c : Nat) (S : Nat → ByteArray) (w : World) (hn : n ≤ 1024) (hs : Strs w a n S) :
    Calls Tryf.prog 9 #[.slice a n c, .int .i64 n] w fun e w' => RetDist S n e ∧ Below w.heap.size w w' := by
  by_cases hz : n = 0
  · subst hz; exact dist_none a c S w
  · obtain ⟨b, off, rfl, hc⟩ := hs (by omega)
    exact dist_some b off n c S w hn (fun i hi => (hc i hi).1)
end Go.Proofs.Qxb6613675aFmt.Look
