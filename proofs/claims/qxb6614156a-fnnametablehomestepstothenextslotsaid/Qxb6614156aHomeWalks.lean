/-
  By the prover: THE WALKS of FnNameTableHomeStepsToTheNextSlot and what it calls.
-/
import Derived.Test.Qxb6614156aHomeBits
import Derived.WalkKit
import Derived.WalkSpells
import Derived.WalkLawsBesides
import Derived.RegionTactic
import Derived.Deep.OwnRows
import Derived.Deep.RegionWith
namespace Go.Proofs.Qxb6614156a.Home
open Go.RowKit Go.Deep

theorem hide {p : Prop} (h : p) : Hid p := h
theorem Try.info23 : (Try.prog.info? 23).map (fun i => (i.zero, i.size, i.bytes)) = some (some (.int .u64 0), 1, 8) := by kernel_rfl

/-- home is 'hash mod size'. -/
def hm (x : Int) (n : Nat) : Int := x % (n : Int)

theorem hm_bits (x : Int) (n k : Nat) (h0 : 0 ≤ x) (h1 : x < 18446744073709551616) (hn : n = 2 ^ k) (hk : n ≤ 65536) : bits .and .u64 x ((n : Int) - 1) = hm x n := by
  obtain ⟨h, rfl⟩ : ∃ h : Nat, x = h := ⟨x.toNat, by omega⟩
  have hp : 0 < n := by rw [hn]; exact Nat.two_pow_pos k
  have := home_mod h n k (by omega) hn hk
  rw [show (((n - 1 : Nat)) : Int) = (n : Int) - 1 by omega] at this
  rw [this]; rfl

set_option maxHeartbeats 400000 in
theorem home_any (p : Nat) (a : Option Addr) (n c : Nat) (x : Int) (w : World) (k : Nat) (h0 : 0 ≤ x) (h1 : x < 18446744073709551616) (hn : n = 2 ^ k) (hk : n ≤ 65536)
    (hc : w.cell? ⟨p, 3, none⟩ = some (.slice a n c)) :
    Calls Try.prog 8 #[.pointer (some ⟨p, 0, none⟩), .int .u64 x] w fun e w' => e = .returned (.int .i64 (hm x n)) ∧ w' = w := by
  have hp : 0 < n := by rw [hn]; exact Nat.two_pow_pos k
  have hb := hm_bits x n k h0 h1 hn hk
  have hr : 0 ≤ hm x n ∧ hm x n < 65536 := by unfold hm; have := Int.emod_nonneg x (show (n : Int) ≠ 0 by omega); have := Int.emod_lt_of_pos x (show (0 : Int) < n by omega); omega
  obtain ⟨hr0, hr1⟩ := hr
  clear hn
  go_enter Try.func8, Try.ntmps8
  go_wp2
  go_ret
  exact ⟨rfl, rfl⟩

set_option maxHeartbeats 400000 in
theorem clone_any (b off n c : Nat) (zs : Nat → Int) (w : World) (hn : n ≤ 65536) (hc : ∀ i, i < n → w.cell? ⟨b, off + i, none⟩ = some (.int .u64 (zs i))) :
    Calls Try.prog 6 #[.slice (some ⟨b, off, none⟩) n c] w fun e w' => e = .returned (.slice (some ⟨w.heap.size, 0, none⟩) n n) ∧ Below w.heap.size w w' := by
  have q22 : ∀ (w : World) (a : Option Addr) (n c : Nat), (binOp .eql 22 (.slice a n c) (.slice none 0 0)).run Try.prog w = .ok (.bool a.isNone) w := fun w a n c => Lib.run_eql_slice_nil w _ _ a n c 0 0 Try.underlying22
  have hmk := run_make_row' (P := Try.prog) 22 23 (.int .u64 0) 8 Try.underlying22 Try.info23 rfl .i64 .i64 n (by omega) (by omega)
  have hrow := World.rowIs_made w (.int .u64 0) n 23
  obtain ⟨W0, hW0⟩ : ∃ W0, W0 = w.alloc (.cells (madeCells #[.int .u64 0] n) 23) := ⟨_, rfl⟩
  rw [← hW0] at hrow
  have hbel : Below w.heap.size w W0 := by rw [hW0]; exact (Below.refl _ _).alloc (Nat.le_refl _) _
  have HC := hide hc
  clear hc
  go_enter Try.func6, Try.ntmps6
  go_wp2
  rw [← hW0]
  clear hW0 hmk q22
  go_loopw [4] (fun i wr => ∃ k : Nat, k ≤ n ∧ i = .int .i64 k ∧ (∃ f, wr.rowIs w.heap.size 23 n f) ∧ Below w.heap.size w wr) (fun i _ => n - (intOf i).toNat)
  case atStart => exact ⟨0, Nat.zero_le _, rfl, ⟨_, hrow⟩, hbel⟩
  case round =>
    obtain ⟨k, hk, rfl, ⟨f, hr⟩, hnx⟩ := hrel
    clear hrow hbel
    by_cases hlt : k < n
    · have hlt' : (k : Int) < (n : Int) := by omega
      have c0 : wr.cell? ⟨b, off + k, none⟩ = some (.int .u64 (zs k)) := (hnx.cell (World.block_lt_of_cell? _ _ (HC.out k hlt))).trans (HC.out k hlt)
      have d0 := hr.cell (i := k) hlt
      have f0 := hr.frozen k
      have R := hr.set k (.int .u64 (zs k))
      have HR := hide R
      clear R hr
      go_wp2
      go_roundw
      case rel => exact ⟨k + 1, by omega, by go_num, ⟨_, HR.out⟩, hnx.setCell (Nat.le_refl _) _⟩
      case measure => simp [intOf]; omega
    · go_wp2
      go_ret
      exact ⟨rfl, hnx⟩

theorem wrap_in (y : Int) : 0 ≤ IntKind.u64.wrap y ∧ IntKind.u64.wrap y < 18446744073709551616 := by rw [IntKind.wrap_u64]; omega

theorem hm_facts (x : Int) (n k : Nat) (hn : n = 2 ^ k) (hk : n ≤ 65536) :
    0 ≤ hm x n ∧ hm x n < n ∧ hm (IntKind.u64.wrap (x + 1)) n = (if hm x n + 1 = n then 0 else hm x n + 1) ∧ hm (IntKind.u64.wrap (x - hm x n)) n = 0 ∧ hm (IntKind.u64.wrap (x + n)) n = hm x n := by
  have hp : 0 < n := by rw [hn]; exact Nat.two_pow_pos k
  have hd : (n : Int) ∣ 18446744073709551616 := Int.natCast_dvd_natCast.2 (pow_dvd n k hn hk)
  rw [IntKind.wrap_u64, IntKind.wrap_u64, IntKind.wrap_u64]
  unfold hm
  have a0 := Int.emod_nonneg x (show (n : Int) ≠ 0 by omega)
  have a1 := Int.emod_lt_of_pos x (show (0 : Int) < n by omega)
  rw [Int.emod_emod_of_dvd _ hd, Int.emod_emod_of_dvd _ hd, Int.emod_emod_of_dvd _ hd]
  refine ⟨a0, a1, ?_, ?_, Int.add_emod_right _ _⟩
  · split
    · rename_i h
      rw [Int.add_emod]
      by_cases h2 : (n : Int) = 1
      · simp [h2]
      · rw [Int.emod_eq_of_lt (a := 1) (by omega) (by omega), h]; simp
    · rename_i h
      rw [Int.add_emod]
      rw [Int.emod_eq_of_lt (a := 1) (by omega) (by omega), Int.emod_eq_of_lt (by omega) (by omega)]
  · rw [Int.sub_emod, Int.emod_emod, Int.sub_self]; simp

set_option maxHeartbeats 400000 in
theorem law_big (a0 : Option Addr) (n c : Nat) (x : Int) (w : World) (hn : n ≤ maxLen) (hb : ¬ (n ≤ 65536 ∧ 0 < n ∧ n &&& (n - 1) = 0)) :
    Calls Try.prog 3 #[.slice a0 n c, .int .u64 x] w fun e w' => e = .returned (.bool true) ∧ Below w.heap.size w w' := by
  unfold maxLen at hn
  by_cases h1 : n ≤ 65536
  · by_cases h2 : n = 0
    · subst h2
      clear hb
      go_enter Try.func3, Try.ntmps3
      go_wp2
      go_ret
      exact ⟨rfl, Below.refl _ _⟩
    · have h3 : ¬ (n &&& (n - 1) = 0) := fun h => hb ⟨h1, by omega, h⟩
      have h4 := and_i64 n (n - 1) (by omega) (by omega)
      rw [show (((n - 1 : Nat)) : Int) = (n : Int) - 1 by omega] at h4
      have h5 : (bits .and .i64 (n : Int) ((n : Int) - 1) != 0) = true := by rw [h4]; simp; omega
      have h6 : ((n : Int) == 0) = false := by simp; omega
      clear hb h3 h4
      go_enter Try.func3, Try.ntmps3
      go_wp2
      go_ret
      exact ⟨rfl, Below.refl _ _⟩
  · clear hb
    go_enter Try.func3, Try.ntmps3
    go_wp2
    all_goals (go_ret; exact ⟨rfl, Below.refl _ _⟩)

set_option maxHeartbeats 400000 in
theorem law_in (b off n c k : Nat) (zs : Nat → Int) (x : Int) (w : World) (h0 : 0 ≤ x) (h1 : x < 18446744073709551616) (hn : n = 2 ^ k) (hk : n ≤ 65536)
    (hc : ∀ i, i < n → w.cell? ⟨b, off + i, none⟩ = some (.int .u64 (zs i))) :
    Calls Try.prog 3 #[.slice (some ⟨b, off, none⟩) n c, .int .u64 x] w fun e w' => e = .returned (.bool true) ∧ Below w.heap.size w w' := by
  have hp : 0 < n := by rw [hn]; exact Nat.two_pow_pos k
  have h4 := and_i64 n (n - 1) (by omega) (by omega)
  rw [show (((n - 1 : Nat)) : Int) = (n : Int) - 1 by omega] at h4
  have h5 : (bits .and .i64 (n : Int) ((n : Int) - 1) != 0) = false := by
    rw [h4, hn, Nat.and_two_pow_sub_one_eq_mod]; simp
  have h6 : ((n : Int) == 0) = false := by simp; omega
  clear h4
  obtain ⟨f0, f1, f2, f3, f4⟩ := hm_facts x n k hn hk
  have F3 := hide f3
  have F4 := hide f4
  have HC := hide (clone_any b off n c zs w hk hc)
  have HN := hide hn
  clear f3 f4 hc hn
  by_cases hq : hm x n + 1 = n
  · rw [if_pos hq] at f2
    have F2 := hide f2
    have hq' : (hm x n + 1 == (n : Int)) = true := by simpa using hq
    clear f2 hq
    go_enter Try.func3, Try.ntmps3
    go_wp2_with (first
      | (go_at_call 5; go_in)
      | (go_at_call 6; refine HC.out.mono ?_; rintro e w1 ⟨rfl, hb1⟩; have HB1 := hide hb1; clear hb1)
      | (go_at_call 7; go_in)
      | (go_at_call_of 8 (Value.int IntKind.u64 x); refine (home_any w1.heap.size (some ⟨w.heap.size, 0, none⟩) n n x _ k h0 h1 HN.out hk (by simp)).mono ?_; rintro e w2 ⟨rfl, rfl⟩))
    refine (home_any w1.heap.size (some ⟨w.heap.size, 0, none⟩) n n _ _ k (wrap_in _).1 (wrap_in _).2 HN.out hk (by simp)).mono ?_
    rintro e w2 ⟨rfl, rfl⟩
    rw [F2.out]
    go_wp2_with fail
    refine (home_any w1.heap.size (some ⟨w.heap.size, 0, none⟩) n n _ _ k (wrap_in _).1 (wrap_in _).2 HN.out hk (by simp)).mono ?_
    rintro e w2 ⟨rfl, rfl⟩
    rw [F3.out]
    go_wp2_with fail
    refine (home_any w1.heap.size (some ⟨w.heap.size, 0, none⟩) n n _ _ k (wrap_in _).1 (wrap_in _).2 HN.out hk (by simp)).mono ?_
    rintro e w2 ⟨rfl, rfl⟩
    rw [F4.out]
    go_wp2_with fail
    go_ret
    exact ⟨rfl, HB1.out.alloc HB1.out.size _⟩
  · rw [if_neg hq] at f2
    have F2 := hide f2
    have hq' : (hm x n + 1 == (n : Int)) = false := by simpa using hq
    clear f2 hq
    go_enter Try.func3, Try.ntmps3
    go_wp2_with (first
      | (go_at_call 5; go_in)
      | (go_at_call 6; refine HC.out.mono ?_; rintro e w1 ⟨rfl, hb1⟩; have HB1 := hide hb1; clear hb1)
      | (go_at_call 7; go_in)
      | (go_at_call_of 8 (Value.int IntKind.u64 x); refine (home_any w1.heap.size (some ⟨w.heap.size, 0, none⟩) n n x _ k h0 h1 HN.out hk (by simp)).mono ?_; rintro e w2 ⟨rfl, rfl⟩))
    refine (home_any w1.heap.size (some ⟨w.heap.size, 0, none⟩) n n _ _ k (wrap_in _).1 (wrap_in _).2 HN.out hk (by simp)).mono ?_
    rintro e w2 ⟨rfl, rfl⟩
    rw [F2.out]
    go_wp2_with fail
    refine (home_any w1.heap.size (some ⟨w.heap.size, 0, none⟩) n n _ _ k (wrap_in _).1 (wrap_in _).2 HN.out hk (by simp)).mono ?_
    rintro e w2 ⟨rfl, rfl⟩
    rw [F3.out]
    go_wp2_with fail
    refine (home_any w1.heap.size (some ⟨w.heap.size, 0, none⟩) n n _ _ k (wrap_in _).1 (wrap_in _).2 HN.out hk (by simp)).mono ?_
    rintro e w2 ⟨rfl, rfl⟩
    rw [F4.out]
    go_wp2_with fail
    go_ret
    exact ⟨rfl, HB1.out.alloc HB1.out.size _⟩
end Go.Proofs.Qxb6614156a.Home
