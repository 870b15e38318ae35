/-
  By the prover: THE WALK of zzBytes_FnDefinitionsListsEveryTypeOnceByName: it only reads, and returns a bool.
-/
import Derived.Test.Qxb6613654aFmtDefsBytes
namespace Go.Proofs.Qxb6613654aFmt.Defs
open Go.RowKit

set_option maxRecDepth 100000 in
set_option maxHeartbeats 2000000 in
theorem zzBytes_any (D : Dat) (a : Option Addr) (n c : Nat) (o : ByteArray) (w : World) (hI : In D a n w) :
    Calls Tryf.prog 11 #[.slice a n c, .string o] w fun e w' => RetBool e ∧ w' = w := by
  have hn := hI.n_le
  unfold maxLen at hn
  have HI := hide hI
  clear hI
  go_enter Tryf.func11, Tryf.ntmps11
  go_wp2
  all_goals try (go_ret; exact ⟨⟨_, rfl⟩, rfl⟩)
  go_loop [5, 6] (fun s i => ∃ (j : Nat) (z : Int), j ≤ n ∧ i = .int .i64 j ∧ s = .int .i64 z) (fun _ i => n - (intOf i).toNat)
  case atStart => exact ⟨0, _, Nat.zero_le _, rfl, rfl⟩
  case round =>
    obtain ⟨i, s, hi, rfl, rfl⟩ := hrel
    by_cases hin : i < n
    · obtain ⟨b, off, rfl, hc⟩ := HI.out.defs (by omega)
      have c0 := (hc i hin).1
      have c1 := (hc i hin).2
      have hsz := HI.out.S_le i hin
      have hrn := HI.out.rn_le i hin
      unfold maxLen at hsz hrn
      obtain ⟨ra, era⟩ : ∃ x, D.ra i = x := ⟨_, rfl⟩
      rw [era] at c1
      have Hra := hide era
      clear hc era
      go_wp2
      all_goals try (go_ret; exact ⟨⟨_, rfl⟩, rfl⟩)
      go_loop [5, 7] (fun s i' => ∃ (j : Nat) (z : Int), j ≤ D.rn i ∧ i' = .int .i64 j ∧ s = .int .i64 z) (fun _ i' => D.rn i - (intOf i').toNat)
      case atStart => exact ⟨0, _, Nat.zero_le _, rfl, rfl⟩
      case round =>
        obtain ⟨j, s2, hj, rfl, rfl⟩ := hrel
        by_cases hjn : j < D.rn i
        · obtain ⟨b2, off2, e2, hc2⟩ := HI.out.rels i hin (by omega)
          rw [Hra.out] at e2
          subst e2
          have d0 := (hc2 j hjn).1
          have d1 := (hc2 j hjn).2
          have hsz2 := HI.out.rs_le i j hin hjn
          have htn := HI.out.tn_le i j hin hjn
          unfold maxLen at hsz2 htn
          obtain ⟨ta, eta⟩ : ∃ x, D.ta i j = x := ⟨_, rfl⟩
          rw [eta] at d1
          have Hta := hide eta
          clear hc2 eta
          go_wp2
          all_goals try (go_ret; exact ⟨⟨_, rfl⟩, rfl⟩)
          go_loop [5, 8] (fun s i' => ∃ (k : Nat) (z : Int), k ≤ D.tn i j ∧ i' = .int .i64 k ∧ s = .int .i64 z) (fun _ i' => D.tn i j - (intOf i').toNat)
          case atStart => exact ⟨0, _, Nat.zero_le _, rfl, rfl⟩
          case round =>
            obtain ⟨k, s3, hk, rfl, rfl⟩ := hrel
            by_cases hkn : k < D.tn i j
            · obtain ⟨b3, off3, e3, hc3⟩ := HI.out.types i j hin hjn (by omega)
              rw [Hta.out] at e3
              subst e3
              have e0 := (hc3 k hkn).1
              have e2 := (hc3 k hkn).2.2
              have hsz3 := HI.out.ty_le i j k hin hjn hkn
              have hsz4 := HI.out.re_le i j k hin hjn hkn
              unfold maxLen at hsz3 hsz4
              clear hc3
              go_wp2
              all_goals try (go_ret; exact ⟨⟨_, rfl⟩, rfl⟩)
              go_round
              case rel => exact ⟨k + 1, _, by omega, by go_num, rfl⟩
              case measure => simp [intOf]; omega
            · go_wp2
              go_round
              case rel => exact ⟨j + 1, _, by omega, by go_num, rfl⟩
              case measure => simp [intOf]; omega
        · go_wp2
          go_round
          case rel => exact ⟨i + 1, _, by omega, by go_num, rfl⟩
          case measure => simp [intOf]; omega
    · go_wp2
      all_goals (go_ret; exact ⟨⟨_, rfl⟩, rfl⟩)
end Go.Proofs.Qxb6613654aFmt.Defs
