/-
  By the prover: THE WALK of zzDefsBytes: it only reads; where it says true every count is at most 4096.
-/
import Derived.Test.Qxb6613654aFmtDefsIn
namespace Go.Proofs.Qxb6613654aFmt.Defs
open Go.RowKit

/-- Every count is at most 4096. -/
def Small (D : Dat) (n : Nat) : Prop := n ≤ 4096 ∧ ∀ i, i < n → D.rn i ≤ 4096 ∧ ∀ j, j < D.rn i → D.tn i j ≤ 4096

def RetSmall (D : Dat) (n : Nat) (e : Ending) : Prop := ∃ z r, e = .returned (.tuple #[.int .i64 z, .bool r]) ∧ (r = true → Small D n)

theorem retFalse (D : Dat) (n : Nat) (z : Int) : RetSmall D n (.returned (.tuple #[.int .i64 z, .bool false])) := ⟨z, false, rfl, fun h => by cases h⟩

set_option maxRecDepth 100000 in
set_option maxHeartbeats 1000000 in
theorem defsBytes_any (D : Dat) (a : Option Addr) (n c : Nat) (z : Int) (w : World) (hI : In D a n w) :
    Calls Tryf.prog 12 #[.slice a n c, .int .i64 z] w fun e w' => RetSmall D n e ∧ w' = w := by
  have hn := hI.n_le
  unfold maxLen at hn
  have HI := hide hI
  clear hI
  go_enter Tryf.func12, Tryf.ntmps12
  go_wp2
  all_goals try (go_ret2; exact ⟨retFalse _ _ _, rfl⟩)
  have hn4 : n ≤ 4096 := by omega
  go_loop [1, 6] (fun s i => ∃ (j : Nat) (z : Int), j ≤ n ∧ i = .int .i64 j ∧ s = .int .i64 z ∧ Hid (∀ i, i < j → D.rn i ≤ 4096 ∧ ∀ j, j < D.rn i → D.tn i j ≤ 4096)) (fun _ i => n - (intOf i).toNat)
  case atStart => exact ⟨0, _, Nat.zero_le _, rfl, rfl, fun i h => absurd h (by omega)⟩
  case round =>
    obtain ⟨i, s, hi, rfl, rfl, HK⟩ := hrel
    by_cases hin : i < n
    · obtain ⟨b, off, rfl, hc⟩ := HI.out.defs (by omega)
      have c0 := (hc i hin).1
      have c1 := (hc i hin).2
      have hsz := HI.out.S_le i hin
      have hrn := HI.out.rn_le i hin
      unfold maxLen at hsz hrn
      obtain ⟨ra, era⟩ : ∃ x, D.ra i = x := ⟨_, rfl⟩
      rw [era] at c1
      have Hra := hide era
      clear hc era
      go_wp2
      all_goals try (go_ret2; exact ⟨retFalse _ _ _, rfl⟩)
      have hr4 : D.rn i ≤ 4096 := by omega
      clear c0 c1
      go_loop [1, 8] (fun s i' => ∃ (j : Nat) (z : Int), j ≤ D.rn i ∧ i' = .int .i64 j ∧ s = .int .i64 z ∧ Hid (∀ j', j' < j → D.tn i j' ≤ 4096)) (fun _ i' => D.rn i - (intOf i').toNat)
      case atStart => exact ⟨0, _, Nat.zero_le _, rfl, rfl, fun i h => absurd h (by omega)⟩
      case round =>
        obtain ⟨j, s2, hj, rfl, rfl, HK2⟩ := hrel
        by_cases hjn : j < D.rn i
        · obtain ⟨b2, off2, e2, hc2⟩ := HI.out.rels i hin (by omega)
          rw [Hra.out] at e2
          subst e2
          have c0 := (hc2 j hjn).1
          have c1 := (hc2 j hjn).2
          have hsz2 := HI.out.rs_le i j hin hjn
          have htn := HI.out.tn_le i j hin hjn
          unfold maxLen at hsz2 htn
          obtain ⟨ta, eta⟩ : ∃ x, D.ta i j = x := ⟨_, rfl⟩
          rw [eta] at c1
          have Hta := hide eta
          clear hc2 eta
          go_wp2
          all_goals try (go_ret2; exact ⟨retFalse _ _ _, rfl⟩)
          have ht4 : D.tn i j ≤ 4096 := by omega
          clear c0 c1
          go_loop [1, 10] (fun s i' => ∃ (k : Nat) (z : Int), k ≤ D.tn i j ∧ i' = .int .i64 k ∧ s = .int .i64 z) (fun _ i' => D.tn i j - (intOf i').toNat)
          case atStart => exact ⟨0, _, Nat.zero_le _, rfl, rfl⟩
          case round =>
            obtain ⟨k, s3, hk, rfl, rfl⟩ := hrel
            by_cases hkn : k < D.tn i j
            · obtain ⟨b3, off3, e3, hc3⟩ := HI.out.types i j hin hjn (by omega)
              rw [Hta.out] at e3
              subst e3
              have c0 := (hc3 k hkn).1
              have c2 := (hc3 k hkn).2.2
              have hsz3 := HI.out.ty_le i j k hin hjn hkn
              have hsz4 := HI.out.re_le i j k hin hjn hkn
              unfold maxLen at hsz3 hsz4
              clear hc3
              go_wp2
              all_goals try (go_ret2; exact ⟨retFalse _ _ _, rfl⟩)
              go_round
              case rel => exact ⟨k + 1, _, by omega, by go_num, rfl⟩
              case measure => simp [intOf]; omega
            · go_wp2
              go_round
              case rel => exact ⟨j + 1, _, by omega, by go_num, rfl, fun j' h => (by
                by_cases e : j' = j
                · subst e; exact ht4
                · exact HK2.out j' (by omega))⟩
              case measure => simp [intOf]; omega
        · go_wp2
          go_round
          case rel => exact ⟨i + 1, _, by omega, by go_num, rfl, fun i' h => (by
            by_cases e : i' = i
            · subst e; exact ⟨hr4, fun j' h' => HK2.out j' (by omega)⟩
            · exact HK.out i' (by omega))⟩
          case measure => simp [intOf]; omega
    · go_wp2
      go_ret2
      exact ⟨⟨_, true, rfl, fun _ => ⟨hn4, fun i h => HK.out i (by omega)⟩⟩, rfl⟩
end Go.Proofs.Qxb6613654aFmt.Defs
