/-
  By the prover: THE WALKS of (*Record).SetChecksum, SetBeginPayload, SetFeatures.
-/
import Derived.Test.Qxb6614172aFmtPosWord
namespace Go.Proofs.Qxb6614172aFmt.Pos
open Go.RowKit Go.Deep

def isU64 (u : Int) : Prop := 0 ≤ u ∧ u < 18446744073709551616
def sums (big : Bool) (x : Nat → Int) (s0 s1 s2 s3 : Int) : Nat → Nat → Int
  | 0 => x
  | 1 => put8 big x 8 s0
  | 2 => put8 big (put8 big x 8 s0) 16 s1
  | 3 => put8 big (put8 big (put8 big x 8 s0) 16 s1) 24 s2
  | _ => put8 big (put8 big (put8 big (put8 big x 8 s0) 16 s1) 24 s2) 32 s3
theorem wr0 : IntKind.i64.wrap 0 = 0 := by rw [IntKind.wrap_i64]; rfl
theorem wr8 : IntKind.i64.wrap 8 = 8 := by rw [IntKind.wrap_i64]; rfl
theorem wr16 : IntKind.i64.wrap 16 = 16 := by rw [IntKind.wrap_i64]; rfl
theorem wr24 : IntKind.i64.wrap 24 = 24 := by rw [IntKind.wrap_i64]; rfl
theorem wr32 : IntKind.i64.wrap 32 = 32 := by rw [IntKind.wrap_i64]; rfl
theorem ix0 (s0 s1 s2 s3 : Int) (w : World) : (Instr.index 24 (.agg #[.int .u64 s0, .int .u64 s1, .int .u64 s2, .int .u64 s3]) (.int .i64 0)).run Tryf.prog w = .ok (.int .u64 s0) w := by kernel_rfl
theorem ix1 (s0 s1 s2 s3 : Int) (w : World) : (Instr.index 24 (.agg #[.int .u64 s0, .int .u64 s1, .int .u64 s2, .int .u64 s3]) (.int .i64 1)).run Tryf.prog w = .ok (.int .u64 s1) w := by kernel_rfl
theorem ix2 (s0 s1 s2 s3 : Int) (w : World) : (Instr.index 24 (.agg #[.int .u64 s0, .int .u64 s1, .int .u64 s2, .int .u64 s3]) (.int .i64 2)).run Tryf.prog w = .ok (.int .u64 s2) w := by kernel_rfl
theorem ix3 (s0 s1 s2 s3 : Int) (w : World) : (Instr.index 24 (.agg #[.int .u64 s0, .int .u64 s1, .int .u64 s2, .int .u64 s3]) (.int .i64 3)).run Tryf.prog w = .ok (.int .u64 s3) w := by kernel_rfl
theorem of_drewp {p : Nat} {w w1 : World} (h : Below p w.drew w1) : Below p w w1 := ((Below.refl _ _).drew).trans h

set_option maxHeartbeats 1000000 in
theorem checksum_be (x : Nat → Int) (p : Nat) (s0 s1 s2 s3 : Int) (w : World) (h0 : isU64 s0) (h1 : isU64 s1) (h2 : isU64 s2) (h3 : isU64 s3) (hR : Rec true x p w) :
    Calls Tryf.prog 5 #[.pointer (some ⟨p, 0, none⟩), .agg #[.int .u64 s0, .int .u64 s1, .int .u64 s2, .int .u64 s3]] w fun e w' => e = .returned (.tuple #[]) ∧ Rec true (sums true x s0 s1 s2 s3 4) p w' ∧ Below p w w' := by
  have hp := hR.lt
  have H0 := hide h0
  have H1 := hide h1
  have H2 := hide h2
  have H3 := hide h3
  have HR := hide hR
  clear h0 h1 h2 h3 hR
  go_enter Tryf.func5, Tryf.ntmps5
  go_wp2
  go_loopw [7] (fun i wr => ∃ k : Nat, k ≤ 4 ∧ i = .int .i64 k ∧ Rec true (sums true x s0 s1 s2 s3 k) p wr ∧ Below p w wr) (fun i _ => 4 - (intOf i).toNat)
  case atStart => exact ⟨0, by omega, rfl, HR.out.alloc _, below_alloc hp (Below.refl _ _) _⟩
  case round =>
    obtain ⟨k, hk, rfl, hr, hnx⟩ := hrel
    clear HR
    have hpr := hr.lt
    obtain rfl | rfl | rfl | rfl | rfl : k = 0 ∨ k = 1 ∨ k = 2 ∨ k = 3 ∨ k = 4 := by omega
    · have hm := m53_p64
      have ix := ix0 s0 s1 s2 s3
      have g0 := wr0
      have g1 := wr8
      have hord : wr.cell? ⟨p, 312, none⟩ = some (.iface 47 (.agg #[])) := hr.order
      have HR := hide hr
      clear hr
      go_wp2
      go_region_held3 (fun w' => w'.cell? ⟨p, 312, none⟩ = some (.iface 47 (.agg #[]))) (first | go_keep | exact hR1.order) ((go_at_call 36; refine (be_put64 true _ p 8 _ _ s0 wr.drew (by omega) (by omega) H0.out.1 H0.out.2 HR.out.drew).mono ?_; rintro e w1 ⟨rfl, hR1, hb1⟩))
      go_wp2
      go_roundw
      case rel => exact ⟨1, by omega, rfl, hR1, hnx.trans (of_drewp hb1)⟩
      case measure => simp [intOf]
    · have hm := m53_p64
      have ix := ix1 s0 s1 s2 s3
      have g0 := wr8
      have g1 := wr16
      have hord : wr.cell? ⟨p, 312, none⟩ = some (.iface 47 (.agg #[])) := hr.order
      have HR := hide hr
      clear hr
      go_wp2
      go_region_held3 (fun w' => w'.cell? ⟨p, 312, none⟩ = some (.iface 47 (.agg #[]))) (first | go_keep | exact hR1.order) ((go_at_call 36; refine (be_put64 true _ p 16 _ _ s1 wr.drew (by omega) (by omega) H1.out.1 H1.out.2 HR.out.drew).mono ?_; rintro e w1 ⟨rfl, hR1, hb1⟩))
      go_wp2
      go_roundw
      case rel => exact ⟨2, by omega, rfl, hR1, hnx.trans (of_drewp hb1)⟩
      case measure => simp [intOf]
    · have hm := m53_p64
      have ix := ix2 s0 s1 s2 s3
      have g0 := wr16
      have g1 := wr24
      have hord : wr.cell? ⟨p, 312, none⟩ = some (.iface 47 (.agg #[])) := hr.order
      have HR := hide hr
      clear hr
      go_wp2
      go_region_held3 (fun w' => w'.cell? ⟨p, 312, none⟩ = some (.iface 47 (.agg #[]))) (first | go_keep | exact hR1.order) ((go_at_call 36; refine (be_put64 true _ p 24 _ _ s2 wr.drew (by omega) (by omega) H2.out.1 H2.out.2 HR.out.drew).mono ?_; rintro e w1 ⟨rfl, hR1, hb1⟩))
      go_wp2
      go_roundw
      case rel => exact ⟨3, by omega, rfl, hR1, hnx.trans (of_drewp hb1)⟩
      case measure => simp [intOf]
    · have hm := m53_p64
      have ix := ix3 s0 s1 s2 s3
      have g0 := wr24
      have g1 := wr32
      have hord : wr.cell? ⟨p, 312, none⟩ = some (.iface 47 (.agg #[])) := hr.order
      have HR := hide hr
      clear hr
      go_wp2
      go_region_held3 (fun w' => w'.cell? ⟨p, 312, none⟩ = some (.iface 47 (.agg #[]))) (first | go_keep | exact hR1.order) ((go_at_call 36; refine (be_put64 true _ p 32 _ _ s3 wr.drew (by omega) (by omega) H3.out.1 H3.out.2 HR.out.drew).mono ?_; rintro e w1 ⟨rfl, hR1, hb1⟩))
      go_wp2
      go_roundw
      case rel => exact ⟨4, by omega, rfl, hR1, hnx.trans (of_drewp hb1)⟩
      case measure => simp [intOf]
    · go_wp2
      go_end0
      exact ⟨rfl, hr, hnx⟩

set_option maxHeartbeats 1000000 in
theorem checksum_le (x : Nat → Int) (p : Nat) (s0 s1 s2 s3 : Int) (w : World) (h0 : isU64 s0) (h1 : isU64 s1) (h2 : isU64 s2) (h3 : isU64 s3) (hR : Rec false x p w) :
    Calls Tryf.prog 5 #[.pointer (some ⟨p, 0, none⟩), .agg #[.int .u64 s0, .int .u64 s1, .int .u64 s2, .int .u64 s3]] w fun e w' => e = .returned (.tuple #[]) ∧ Rec false (sums false x s0 s1 s2 s3 4) p w' ∧ Below p w w' := by
  have hp := hR.lt
  have H0 := hide h0
  have H1 := hide h1
  have H2 := hide h2
  have H3 := hide h3
  have HR := hide hR
  clear h0 h1 h2 h3 hR
  go_enter Tryf.func5, Tryf.ntmps5
  go_wp2
  go_loopw [7] (fun i wr => ∃ k : Nat, k ≤ 4 ∧ i = .int .i64 k ∧ Rec false (sums false x s0 s1 s2 s3 k) p wr ∧ Below p w wr) (fun i _ => 4 - (intOf i).toNat)
  case atStart => exact ⟨0, by omega, rfl, HR.out.alloc _, below_alloc hp (Below.refl _ _) _⟩
  case round =>
    obtain ⟨k, hk, rfl, hr, hnx⟩ := hrel
    clear HR
    have hpr := hr.lt
    obtain rfl | rfl | rfl | rfl | rfl : k = 0 ∨ k = 1 ∨ k = 2 ∨ k = 3 ∨ k = 4 := by omega
    · have hm := m54_p64
      have ix := ix0 s0 s1 s2 s3
      have g0 := wr0
      have g1 := wr8
      have hord : wr.cell? ⟨p, 312, none⟩ = some (.iface 48 (.agg #[])) := hr.order
      have HR := hide hr
      clear hr
      go_wp2
      go_region_held3 (fun w' => w'.cell? ⟨p, 312, none⟩ = some (.iface 48 (.agg #[]))) (first | go_keep | exact hR1.order) ((go_at_call 44; refine (le_put64 false _ p 8 _ _ s0 wr.drew (by omega) (by omega) H0.out.1 H0.out.2 HR.out.drew).mono ?_; rintro e w1 ⟨rfl, hR1, hb1⟩))
      go_wp2
      go_roundw
      case rel => exact ⟨1, by omega, rfl, hR1, hnx.trans (of_drewp hb1)⟩
      case measure => simp [intOf]
    · have hm := m54_p64
      have ix := ix1 s0 s1 s2 s3
      have g0 := wr8
      have g1 := wr16
      have hord : wr.cell? ⟨p, 312, none⟩ = some (.iface 48 (.agg #[])) := hr.order
      have HR := hide hr
      clear hr
      go_wp2
      go_region_held3 (fun w' => w'.cell? ⟨p, 312, none⟩ = some (.iface 48 (.agg #[]))) (first | go_keep | exact hR1.order) ((go_at_call 44; refine (le_put64 false _ p 16 _ _ s1 wr.drew (by omega) (by omega) H1.out.1 H1.out.2 HR.out.drew).mono ?_; rintro e w1 ⟨rfl, hR1, hb1⟩))
      go_wp2
      go_roundw
      case rel => exact ⟨2, by omega, rfl, hR1, hnx.trans (of_drewp hb1)⟩
      case measure => simp [intOf]
    · have hm := m54_p64
      have ix := ix2 s0 s1 s2 s3
      have g0 := wr16
      have g1 := wr24
      have hord : wr.cell? ⟨p, 312, none⟩ = some (.iface 48 (.agg #[])) := hr.order
      have HR := hide hr
      clear hr
      go_wp2
      go_region_held3 (fun w' => w'.cell? ⟨p, 312, none⟩ = some (.iface 48 (.agg #[]))) (first | go_keep | exact hR1.order) ((go_at_call 44; refine (le_put64 false _ p 24 _ _ s2 wr.drew (by omega) (by omega) H2.out.1 H2.out.2 HR.out.drew).mono ?_; rintro e w1 ⟨rfl, hR1, hb1⟩))
      go_wp2
      go_roundw
      case rel => exact ⟨3, by omega, rfl, hR1, hnx.trans (of_drewp hb1)⟩
      case measure => simp [intOf]
    · have hm := m54_p64
      have ix := ix3 s0 s1 s2 s3
      have g0 := wr24
      have g1 := wr32
      have hord : wr.cell? ⟨p, 312, none⟩ = some (.iface 48 (.agg #[])) := hr.order
      have HR := hide hr
      clear hr
      go_wp2
      go_region_held3 (fun w' => w'.cell? ⟨p, 312, none⟩ = some (.iface 48 (.agg #[]))) (first | go_keep | exact hR1.order) ((go_at_call 44; refine (le_put64 false _ p 32 _ _ s3 wr.drew (by omega) (by omega) H3.out.1 H3.out.2 HR.out.drew).mono ?_; rintro e w1 ⟨rfl, hR1, hb1⟩))
      go_wp2
      go_roundw
      case rel => exact ⟨4, by omega, rfl, hR1, hnx.trans (of_drewp hb1)⟩
      case measure => simp [intOf]
    · go_wp2
      go_end0
      exact ⟨rfl, hr, hnx⟩

end Go.Proofs.Qxb6614172aFmt.Pos
