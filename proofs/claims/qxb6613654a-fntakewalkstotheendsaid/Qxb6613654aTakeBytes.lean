/-
  WALKS over the seat's program, by the prover: zzBytes_FnTakeWalksToTheEnd returns some bool and only reads.
-/
import Derived.Test.Qxb6613654aRows
import Derived.WalkKit
import Derived.WalkSpells
import Derived.WalkLawsBesides
namespace Go.Proofs.Qxb6613654a.Take
open Go.RowKit

/-- It returned a bool, and where that is true every string is short. (A name of its own, so that the walk's simp leaves it standing.) -/
def RetBool (S : Nat → ByteArray) (n : Nat) (e : Ending) : Prop := ∃ r, e = .returned (.bool r) ∧ (r = true → ∀ i, i < n → (S i).size ≤ 1048576)
theorem RetBool.no {S : Nat → ByteArray} {n : Nat} : RetBool S n (.returned (.bool false)) := ⟨false, rfl, fun h => by cases h⟩
theorem RetBool.mk {S : Nat → ByteArray} {n : Nat} (b : Bool) (h : ∀ i, i < n → (S i).size ≤ 1048576) : RetBool S n (.returned (.bool b)) := ⟨b, rfl, fun _ => h⟩

/-- What a walk is told of a []string that came in: where it has an element it lies in a row of cells. -/
def Strs (w : World) (a : Option Addr) (n : Nat) (S : Nat → ByteArray) : Prop :=
  0 < n → ∃ b off, a = some ⟨b, off, none⟩ ∧ ∀ i, i < n → w.cell? ⟨b, off + i, none⟩ = some (.string (S i)) ∧ (S i).size ≤ maxLen

set_option maxHeartbeats 400000 in
theorem bytes_none (a : Option Addr) (c : Nat) (S : Nat → ByteArray) (a1 : Option Addr) (n1 c1 : Nat) (x k : Int) (w : World) (hn1 : n1 ≤ maxLen) :
    Calls Try.prog 6 #[.slice a 0 c, .slice a1 n1 c1, .int .i64 x, .int .i64 k] w fun e w' => RetBool S 0 e ∧ w' = w := by
  unfold maxLen at hn1
  go_enter Try.func6, Try.ntmps6
  go_wp2
  refine wp_loop_rounds 1 ?_
  rw [rounds_succ]
  go_wp2
  all_goals (go_ret; exact ⟨RetBool.mk _ (fun i hi => absurd hi (by omega)), rfl⟩)

set_option maxHeartbeats 400000 in
theorem bytes_some (b off n c : Nat) (S : Nat → ByteArray) (a1 : Option Addr) (n1 c1 : Nat) (x k : Int) (w : World) (hn : n ≤ maxLen) (hn1 : n1 ≤ maxLen)
    (hc : ∀ i, i < n → w.cell? ⟨b, off + i, none⟩ = some (.string (S i)) ∧ (S i).size ≤ maxLen) :
    Calls Try.prog 6 #[.slice (some ⟨b, off, none⟩) n c, .slice a1 n1 c1, .int .i64 x, .int .i64 k] w fun e w' => RetBool S n e ∧ w' = w := by
  unfold maxLen at hn1 hn hc
  go_enter Try.func6, Try.ntmps6
  go_wp2
  · go_ret; exact ⟨RetBool.no, rfl⟩
  · go_loop [9, 10] (fun z i => ∃ (j : Nat) (s : Int), j ≤ n ∧ i = .int .i64 j ∧ z = .int .i64 s ∧ 0 ≤ s ∧ s ≤ 1048576 ∧ Hid (∀ i, i < j → (S i).size ≤ 1048576)) (fun _ i => n - (intOf i).toNat)
    case atStart => exact ⟨0, n, Nat.zero_le _, rfl, rfl, by omega, by omega, fun i hi => absurd hi (by omega)⟩
    case round =>
      obtain ⟨j, s, hj, rfl, rfl, h0, h1, hS⟩ := hrel
      have hcell : j < n → w.cell? ⟨b, off + j, none⟩ = some (.string (S j)) := fun h => (hc j h).1
      have hsz : j < n → (S j).size ≤ 9223372036854775807 := fun h => (hc j h).2
      clear hc
      go_wp2
      all_goals first
        | (go_ret; exact ⟨RetBool.no, rfl⟩)
        | (go_ret; exact ⟨RetBool.mk _ (fun i hi => hS.out i (by omega)), rfl⟩)
        | (go_round
           case rel => exact ⟨j + 1, s + (S j).size, by omega, by go_num, rfl, by omega, by omega, fun i hi => (by
             by_cases e : i = j
             · subst e; omega
             · exact hS.out i (by omega))⟩
           case measure => simp [intOf]; omega)

theorem bytes_any (a : Option Addr) (n c : Nat) (S : Nat → ByteArray) (a1 : Option Addr) (n1 c1 : Nat) (x k : Int) (w : World) (hn : n ≤ maxLen) (hn1 : n1 ≤ maxLen) (hs : Strs w a n S) :
    Calls Try.prog 6 #[.slice a n c, .slice a1 n1 c1, .int .i64 x, .int .i64 k] w fun e w' => RetBool S n e ∧ w' = w := by
  by_cases h0 : n = 0
  · subst h0; exact bytes_none a c S a1 n1 c1 x k w hn1
  · obtain ⟨b, off, rfl, hc⟩ := hs (by omega)
    exact bytes_some b off n c S a1 n1 c1 x k w hn hn1 hc
end Go.Proofs.Qxb6613654a.Take
