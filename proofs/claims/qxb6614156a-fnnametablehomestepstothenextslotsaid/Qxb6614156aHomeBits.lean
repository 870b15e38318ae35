/-
  By the prover: THE PLAIN LAW: a power of two by 'n & (n-1) == 0'; 'h & (n-1)' is 'h mod n' there. No Go in sight but the model's 'bits'.
-/
import Derived.Test.Qxb6614156aRows
import Derived.WalkKit
namespace Go.Proofs.Qxb6614156a.Home

theorem pow_of_and (n : Nat) : 0 < n → n &&& (n - 1) = 0 → ∃ k, n = 2 ^ k := by
  induction n using Nat.strongRecOn with
  | _ n ih =>
    intro h0 h
    rcases Nat.mod_two_eq_zero_or_one n with e | e
    · obtain ⟨m, rfl⟩ : ∃ m, n = 2 * m := ⟨n / 2, by omega⟩
      have hd : (2 * m &&& (2 * m - 1)) / 2 = m &&& (m - 1) := by
        rw [Nat.and_div_two]
        congr 1 <;> omega
      rw [h] at hd
      obtain ⟨k, hk⟩ := ih m (by omega) (by omega) (by omega)
      exact ⟨k + 1, by rw [Nat.pow_succ]; omega⟩
    · obtain ⟨m, rfl⟩ : ∃ m, n = 2 * m + 1 := ⟨n / 2, by omega⟩
      have hd : (2 * m + 1 &&& (2 * m + 1 - 1)) / 2 = m &&& m := by
        rw [Nat.and_div_two]
        congr 1 <;> omega
      rw [h, Nat.and_self] at hd
      exact ⟨0, by omega⟩

theorem ofInt_toNat (a : Nat) (ha : a < 18446744073709551616) : (BitVec.ofInt 64 (a : Int)).toNat = a := by
  rw [BitVec.ofInt_natCast, BitVec.toNat_ofNat]; exact Nat.mod_eq_of_lt (by omega)

theorem and_u64 (a b : Nat) (ha : a < 18446744073709551616) (hb : b < 18446744073709551616) : bits .and .u64 (a : Int) (b : Int) = ((a &&& b : Nat) : Int) := by
  show IntKind.u64.wrap ((BitVec.ofInt 64 (a : Int) &&& BitVec.ofInt 64 (b : Int)).toNat : Int) = _
  rw [BitVec.toNat_and, ofInt_toNat a ha, ofInt_toNat b hb, IntKind.wrap_u64]
  have : a &&& b ≤ a := Nat.and_le_left
  omega

theorem and_i64 (a b : Nat) (ha : a < 9223372036854775808) (hb : b < 9223372036854775808) : bits .and .i64 (a : Int) (b : Int) = ((a &&& b : Nat) : Int) := by
  show IntKind.i64.wrap ((BitVec.ofInt 64 (a : Int) &&& BitVec.ofInt 64 (b : Int)).toNat : Int) = _
  rw [BitVec.toNat_and, ofInt_toNat a (by omega), ofInt_toNat b (by omega), IntKind.wrap_i64]
  have : a &&& b ≤ a := Nat.and_le_left
  omega

/-- 'h & (n - 1)', n a power of two. -/
theorem home_mod (h : Nat) (n k : Nat) (hh : h < 18446744073709551616) (hn : n = 2 ^ k) (hk : n ≤ 65536) : bits .and .u64 (h : Int) (((n - 1 : Nat)) : Int) = ((h % n : Nat) : Int) := by
  rw [and_u64 h (n - 1) hh (by omega), hn, Nat.and_two_pow_sub_one_eq_mod]

theorem pow_dvd (n k : Nat) (hn : n = 2 ^ k) (hk : n ≤ 65536) : n ∣ 18446744073709551616 := by
  have : k ≤ 64 := by
    apply Decidable.byContradiction
    intro hc
    have : 2 ^ 17 ≤ 2 ^ k := Nat.pow_le_pow_right (by omega) (by omega)
    omega
  rw [hn, show (18446744073709551616 : Nat) = 2 ^ 64 by rfl]
  exact Nat.pow_dvd_pow 2 this
end Go.Proofs.Qxb6614156a.Home
