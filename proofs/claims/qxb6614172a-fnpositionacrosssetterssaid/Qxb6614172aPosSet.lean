/-
  By the prover: THE WALKS of (*Record).SetChecksum, SetBeginPayload, SetFeatures.
-/
import Derived.Test.Qxb6614172aPosWord
namespace Go.Proofs.Qxb6614172a.Pos
open Go.RowKit Go.Deep

def isU64 (u : Int) : Prop := 0 ≤ u ∧ u < 18446744073709551616
def sums (big : Bool) (x : Nat → Int) (s0 s1 s2 s3 : Int) : Nat → Nat → Int
  | 0 => x
  | 1 => put8 big x 8 s0
  | 2 => put8 big (put8 big x 8 s0) 16 s1
  | 3 => put8 big (put8 big (put8 big x 8 s0) 16 s1) 24 s2
  | _ => put8 big (put8 big (put8 big (put8 big x 8 s0) 16 s1) 24 s2) 32 s3
theorem wr0 : IntKind.i64.wrap 0 = 0 := by rw [IntKind.wrap_i64]; rfl
theorem wr8 : IntKind.i64.wrap 8 = 8 := by rw [IntKind.wrap_i64]; rfl
theorem wr16 : IntKind.i64.wrap 16 = 16 := by rw [IntKind.wrap_i64]; rfl
theorem wr24 : IntKind.i64.wrap 24 = 24 := by rw [IntKind.wrap_i64]; rfl
theorem wr32 : IntKind.i64.wrap 32 = 32 := by rw [IntKind.wrap_i64]; rfl
theorem ix0 (s0 s1 s2 s3 : Int) (w : World) : (Instr.index 25 (.agg #[.int .u64 s0, .int .u64 s1, .int .u64 s2, .int .u64 s3]) (.int .i64 0)).run Try.prog w = .ok (.int .u64 s0) w := by kernel_rfl
theorem ix1 (s0 s1 s2 s3 : Int) (w : World) : (Instr.index 25 (.agg #[.int .u64 s0, .int .u64 s1, .int .u64 s2, .int .u64 s3]) (.int .i64 1)).run Try.prog w = .ok (.int .u64 s1) w := by kernel_rfl
theorem ix2 (s0 s1 s2 s3 : Int) (w : World) : (Instr.index 25 (.agg #[.int .u64 s0, .int .u64 s1, .int .u64 s2, .int .u64 s3]) (.int .i64 2)).run Try.prog w = .ok (.int .u64 s2) w := by kernel_rfl
theorem ix3 (s0 s1 s2 s3 : Int) (w : World) : (Instr.index 25 (.agg #[.int .u64 s0, .int .u64 s1, .int .u64 s2, .int .u64 s3]) (.int .i64 3)).run Try.prog w = .ok (.int .u64 s3) w := by kernel_rfl
theorem of_drewp {p : Nat} {w w1 : World} (h : Below p w.drew w1) : Below p w w1 := ((Below.refl _ _).drew).trans h

set_option maxHeartbeats 1000000 in
theorem checksum_be (x : Nat → Int) (p : Nat) (s0 s1 s2 s3 : Int) (w : World) (h0 : isU64 s0) (h1 : isU64 s1) (h2 : isU64 s2) (h3 : isU64 s3) (hR : Rec true x p w) :
    Calls Try.prog 11 #[.pointer (some ⟨p, 0, none⟩), .agg #[.int .u64 s0, .int .u64 s1, .int .u64 s2, .int .u64 s3]] w fun e w' => e = .returned (.tuple #[]) ∧ Rec true (sums true x s0 s1 s2 s3 4) p w' ∧ Below p w w' := by
  have hp := hR.lt
  have H0 := hide h0
  have H1 := hide h1
  have H2 := hide h2
  have H3 := hide h3
  have HR := hide hR
  clear h0 h1 h2 h3 hR
  go_enter Try.func11, Try.ntmps11
  go_wp2
  go_loopw [7] (fun i wr => ∃ k : Nat, k ≤ 4 ∧ i = .int .i64 k ∧ Rec true (sums true x s0 s1 s2 s3 k) p wr ∧ Below p w wr) (fun i _ => 4 - (intOf i).toNat)
  case atStart => exact ⟨0, by omega, rfl, HR.out.alloc _, below_alloc hp (Below.refl _ _) _⟩
  case round =>
    obtain ⟨k, hk, rfl, hr, hnx⟩ := hrel
    clear HR
    have hpr := hr.lt
    obtain rfl | rfl | rfl | rfl | rfl : k = 0 ∨ k = 1 ∨ k = 2 ∨ k = 3 ∨ k = 4 := by omega
    · have hm := m53_p64
      have ix := ix0 s0 s1 s2 s3
      have g0 := wr0
      have g1 := wr8
      have hord : wr.cell? ⟨p, 312, none⟩ = some (.iface 53 (.agg #[])) := hr.order
      have HR := hide hr
      clear hr
      go_wp2
      go_region_held3 (fun w' => w'.cell? ⟨p, 312, none⟩ = some (.iface 53 (.agg #[]))) (first | go_keep | exact hR1.order) ((go_at_call 47; refine (be_put64 true _ p 8 _ _ s0 wr.drew (by omega) (by omega) H0.out.1 H0.out.2 HR.out.drew).mono ?_; rintro e w1 ⟨rfl, hR1, hb1⟩))
      go_wp2
      go_roundw
      case rel => exact ⟨1, by omega, rfl, hR1, hnx.trans (of_drewp hb1)⟩
      case measure => simp [intOf]
    · have hm := m53_p64
      have ix := ix1 s0 s1 s2 s3
      have g0 := wr8
      have g1 := wr16
      have hord : wr.cell? ⟨p, 312, none⟩ = some (.iface 53 (.agg #[])) := hr.order
      have HR := hide hr
      clear hr
      go_wp2
      go_region_held3 (fun w' => w'.cell? ⟨p, 312, none⟩ = some (.iface 53 (.agg #[]))) (first | go_keep | exact hR1.order) ((go_at_call 47; refine (be_put64 true _ p 16 _ _ s1 wr.drew (by omega) (by omega) H1.out.1 H1.out.2 HR.out.drew).mono ?_; rintro e w1 ⟨rfl, hR1, hb1⟩))
      go_wp2
      go_roundw
      case rel => exact ⟨2, by omega, rfl, hR1, hnx.trans (of_drewp hb1)⟩
      case measure => simp [intOf]
    · have hm := m53_p64
      have ix := ix2 s0 s1 s2 s3
      have g0 := wr16
      have g1 := wr24
      have hord : wr.cell? ⟨p, 312, none⟩ = some (.iface 53 (.agg #[])) := hr.order
      have HR := hide hr
      clear hr
      go_wp2
      go_region_held3 (fun w' => w'.cell? ⟨p, 312, none⟩ = some (.iface 53 (.agg #[]))) (first | go_keep | exact hR1.order) ((go_at_call 47; refine (be_put64 true _ p 24 _ _ s2 wr.drew (by omega) (by omega) H2.out.1 H2.out.2 HR.out.drew).mono ?_; rintro e w1 ⟨rfl, hR1, hb1⟩))
      go_wp2
      go_roundw
      case rel => exact ⟨3, by omega, rfl, hR1, hnx.trans (of_drewp hb1)⟩
      case measure => simp [intOf]
    · have hm := m53_p64
      have ix := ix3 s0 s1 s2 s3
      have g0 := wr24
      have g1 := wr32
      have hord : wr.cell? ⟨p, 312, none⟩ = some (.iface 53 (.agg #[])) := hr.order
      have HR := hide hr
      clear hr
      go_wp2
      go_region_held3 (fun w' => w'.cell? ⟨p, 312, none⟩ = some (.iface 53 (.agg #[]))) (first | go_keep | exact hR1.order) ((go_at_call 47; refine (be_put64 true _ p 32 _ _ s3 wr.drew (by omega) (by omega) H3.out.1 H3.out.2 HR.out.drew).mono ?_; rintro e w1 ⟨rfl, hR1, hb1⟩))
      go_wp2
      go_roundw
      case rel => exact ⟨4, by omega, rfl, hR1, hnx.trans (of_drewp hb1)⟩
      case measure => simp [intOf]
    · go_wp2
      go_end0
      exact ⟨rfl, hr, hnx⟩

set_option maxHeartbeats 1000000 in
theorem checksum_le (x : Nat → Int) (p : Nat) (s0 s1 s2 s3 : Int) (w : World) (h0 : isU64 s0) (h1 : isU64 s1) (h2 : isU64 s2) (h3 : isU64 s3) (hR : Rec false x p w) :
    Calls Try.prog 11 #[.pointer (some ⟨p, 0, none⟩), .agg #[.int .u64 s0, .int .u64 s1, .int .u64 s2, .int .u64 s3]] w fun e w' => e = .returned (.tuple #[]) ∧ Rec false (sums false x s0 s1 s2 s3 4) p w' ∧ Below p w w' := by
  have hp := hR.lt
  have H0 := hide h0
  have H1 := hide h1
  have H2 := hide h2
  have H3 := hide h3
  have HR := hide hR
  clear h0 h1 h2 h3 hR
  go_enter Try.func11, Try.ntmps11
  go_wp2
  go_loopw [7] (fun i wr => ∃ k : Nat, k ≤ 4 ∧ i = .int .i64 k ∧ Rec false (sums false x s0 s1 s2 s3 k) p wr ∧ Below p w wr) (fun i _ => 4 - (intOf i).toNat)
  case atStart => exact ⟨0, by omega, rfl, HR.out.alloc _, below_alloc hp (Below.refl _ _) _⟩
  case round =>
    obtain ⟨k, hk, rfl, hr, hnx⟩ := hrel
    clear HR
    have hpr := hr.lt
    obtain rfl | rfl | rfl | rfl | rfl : k = 0 ∨ k = 1 ∨ k = 2 ∨ k = 3 ∨ k = 4 := by omega
    · have hm := m54_p64
      have ix := ix0 s0 s1 s2 s3
      have g0 := wr0
      have g1 := wr8
      have hord : wr.cell? ⟨p, 312, none⟩ = some (.iface 54 (.agg #[])) := hr.order
      have HR := hide hr
      clear hr
      go_wp2
      go_region_held3 (fun w' => w'.cell? ⟨p, 312, none⟩ = some (.iface 54 (.agg #[]))) (first | go_keep | exact hR1.order) ((go_at_call 55; refine (le_put64 false _ p 8 _ _ s0 wr.drew (by omega) (by omega) H0.out.1 H0.out.2 HR.out.drew).mono ?_; rintro e w1 ⟨rfl, hR1, hb1⟩))
      go_wp2
      go_roundw
      case rel => exact ⟨1, by omega, rfl, hR1, hnx.trans (of_drewp hb1)⟩
      case measure => simp [intOf]
    · have hm := m54_p64
      have ix := ix1 s0 s1 s2 s3
      have g0 := wr8
      have g1 := wr16
      have hord : wr.cell? ⟨p, 312, none⟩ = some (.iface 54 (.agg #[])) := hr.order
      have HR := hide hr
      clear hr
      go_wp2
      go_region_held3 (fun w' => w'.cell? ⟨p, 312, none⟩ = some (.iface 54 (.agg #[]))) (first | go_keep | exact hR1.order) ((go_at_call 55; refine (le_put64 false _ p 16 _ _ s1 wr.drew (by omega) (by omega) H1.out.1 H1.out.2 HR.out.drew).mono ?_; rintro e w1 ⟨rfl, hR1, hb1⟩))
      go_wp2
      go_roundw
      case rel => exact ⟨2, by omega, rfl, hR1, hnx.trans (of_drewp hb1)⟩
      case measure => simp [intOf]
    · have hm := m54_p64
      have ix := ix2 s0 s1 s2 s3
      have g0 := wr16
      have g1 := wr24
      have hord : wr.cell? ⟨p, 312, none⟩ = some (.iface 54 (.agg #[])) := hr.order
      have HR := hide hr
      clear hr
      go_wp2
      go_region_held3 (fun w' => w'.cell? ⟨p, 312, none⟩ = some (.iface 54 (.agg #[]))) (first | go_keep | exact hR1.order) ((go_at_call 55; refine (le_put64 false _ p 24 _ _ s2 wr.drew (by omega) (by omega) H2.out.1 H2.out.2 HR.out.drew).mono ?_; rintro e w1 ⟨rfl, hR1, hb1⟩))
      go_wp2
      go_roundw
      case rel => exact ⟨3, by omega, rfl, hR1, hnx.trans (of_drewp hb1)⟩
      case measure => simp [intOf]
    · have hm := m54_p64
      have ix := ix3 s0 s1 s2 s3
      have g0 := wr24
      have g1 := wr32
      have hord : wr.cell? ⟨p, 312, none⟩ = some (.iface 54 (.agg #[])) := hr.order
      have HR := hide hr
      clear hr
      go_wp2
      go_region_held3 (fun w' => w'.cell? ⟨p, 312, none⟩ = some (.iface 54 (.agg #[]))) (first | go_keep | exact hR1.order) ((go_at_call 55; refine (le_put64 false _ p 32 _ _ s3 wr.drew (by omega) (by omega) H3.out.1 H3.out.2 HR.out.drew).mono ?_; rintro e w1 ⟨rfl, hR1, hb1⟩))
      go_wp2
      go_roundw
      case rel => exact ⟨4, by omega, rfl, hR1, hnx.trans (of_drewp hb1)⟩
      case measure => simp [intOf]
    · go_wp2
      go_end0
      exact ⟨rfl, hr, hnx⟩

/-- What SetFeatures lays: features<<2|old&3, as the walk spells it. -/
def feat (big : Bool) (x : Nat → Int) (u : Int) : Int := bits BinOp.or IntKind.u64 (IntKind.u64.wrap (u * 4)) (bits BinOp.and IntKind.u64 (w8 big x 16) 3)
theorem bits_in (op : BinOp) (a b : Int) : 0 ≤ bits op .u64 a b ∧ bits op .u64 a b < 18446744073709551616 := by
  unfold bits; dsimp only; rw [IntKind.wrap_u64]; omega
theorem feat_in (big : Bool) (x : Nat → Int) (u : Int) : 0 ≤ feat big x u ∧ feat big x u < 18446744073709551616 := bits_in _ _ _

set_option maxHeartbeats 1000000 in
theorem payload_be (x : Nat → Int) (p : Nat) (u : Int) (w : World) (h0 : 0 ≤ u) (h1 : u < 4294967296) (hR : Rec true x p w) :
    Calls Try.prog 9 #[.pointer (some ⟨p, 0, none⟩), .int .u32 u] w fun e w' => e = .returned (.tuple #[]) ∧ Rec true (put4 true x 4 u) p w' ∧ Below p w w' := by
  have hp := hR.lt
  have hm := m53_p32
  have hord : w.cell? ⟨p, 312, none⟩ = some (.iface 53 (.agg #[])) := hR.order
  have HR := hide hR
  clear hR
  go_enter Try.func9, Try.ntmps9
  go_wp2
  go_region_held3 (fun w' => w'.cell? ⟨p, 312, none⟩ = some (.iface 53 (.agg #[]))) (first | go_keep | exact hR1.order) ((go_at_call 46; refine (be_put32 true _ p 4 _ _ u w.drew (by omega) (by omega) h0 h1 HR.out.drew).mono ?_; rintro e w1 ⟨rfl, hR1, hb1⟩))
  go_wp2
  go_end0
  exact ⟨rfl, hR1, of_drewp hb1⟩

set_option maxHeartbeats 1000000 in
theorem features_be (x : Nat → Int) (p : Nat) (u : Int) (w : World) (hx : ∀ i, isByte (x i)) (hR : Rec true x p w) :
    Calls Try.prog 10 #[.pointer (some ⟨p, 0, none⟩), .int .u64 u] w fun e w' => e = .returned (.tuple #[]) ∧ Rec true (put8 true x 16 (feat true x u)) p w' ∧ Below p w w' := by
  have hp := hR.lt
  have hm := m53_p64
  have hord : w.cell? ⟨p, 312, none⟩ = some (.iface 53 (.agg #[])) := hR.order
  have hf := feat_in true x u
  have HF := hide hf
  have HR := hide hR
  have HX := hide hx
  clear hR hx hf
  go_enter Try.func10, Try.ntmps10
  go_wp2
  go_region_held3 (fun w' => w'.cell? ⟨p, 312, none⟩ = some (.iface 53 (.agg #[]))) (first | go_keep | exact hR1.order | exact hR2.order) ((first
    | (go_at_call 18; refine (u64_any true x p 16 w.drew (by omega) HX.out HR.out.drew).mono ?_; rintro e w1 ⟨rfl, hb1⟩; have hR1 := HR.out.drew.below hb1)
    | (go_at_call 47; refine (be_put64 true _ p 16 _ _ (feat true x u) w1 (by omega) (by omega) HF.out.1 HF.out.2 hR1).mono ?_; rintro e w2 ⟨rfl, hR2, hb2⟩)))
  go_wp2
  go_end0
  exact ⟨rfl, hR2, (of_drew hb1).mono (Nat.le_of_lt hp) |>.trans hb2⟩

set_option maxHeartbeats 1000000 in
theorem payload_le (x : Nat → Int) (p : Nat) (u : Int) (w : World) (h0 : 0 ≤ u) (h1 : u < 4294967296) (hR : Rec false x p w) :
    Calls Try.prog 9 #[.pointer (some ⟨p, 0, none⟩), .int .u32 u] w fun e w' => e = .returned (.tuple #[]) ∧ Rec false (put4 false x 4 u) p w' ∧ Below p w w' := by
  have hp := hR.lt
  have hm := m54_p32
  have hord : w.cell? ⟨p, 312, none⟩ = some (.iface 54 (.agg #[])) := hR.order
  have HR := hide hR
  clear hR
  go_enter Try.func9, Try.ntmps9
  go_wp2
  go_region_held3 (fun w' => w'.cell? ⟨p, 312, none⟩ = some (.iface 54 (.agg #[]))) (first | go_keep | exact hR1.order) ((go_at_call 54; refine (le_put32 false _ p 4 _ _ u w.drew (by omega) (by omega) h0 h1 HR.out.drew).mono ?_; rintro e w1 ⟨rfl, hR1, hb1⟩))
  go_wp2
  go_end0
  exact ⟨rfl, hR1, of_drewp hb1⟩

set_option maxHeartbeats 1000000 in
theorem features_le (x : Nat → Int) (p : Nat) (u : Int) (w : World) (hx : ∀ i, isByte (x i)) (hR : Rec false x p w) :
    Calls Try.prog 10 #[.pointer (some ⟨p, 0, none⟩), .int .u64 u] w fun e w' => e = .returned (.tuple #[]) ∧ Rec false (put8 false x 16 (feat false x u)) p w' ∧ Below p w w' := by
  have hp := hR.lt
  have hm := m54_p64
  have hord : w.cell? ⟨p, 312, none⟩ = some (.iface 54 (.agg #[])) := hR.order
  have hf := feat_in false x u
  have HF := hide hf
  have HR := hide hR
  have HX := hide hx
  clear hR hx hf
  go_enter Try.func10, Try.ntmps10
  go_wp2
  go_region_held3 (fun w' => w'.cell? ⟨p, 312, none⟩ = some (.iface 54 (.agg #[]))) (first | go_keep | exact hR1.order | exact hR2.order) ((first
    | (go_at_call 18; refine (u64_any false x p 16 w.drew (by omega) HX.out HR.out.drew).mono ?_; rintro e w1 ⟨rfl, hb1⟩; have hR1 := HR.out.drew.below hb1)
    | (go_at_call 55; refine (le_put64 false _ p 16 _ _ (feat false x u) w1 (by omega) (by omega) HF.out.1 HF.out.2 hR1).mono ?_; rintro e w2 ⟨rfl, hR2, hb2⟩)))
  go_wp2
  go_end0
  exact ⟨rfl, hR2, (of_drew hb1).mono (Nat.le_of_lt hp) |>.trans hb2⟩
end Go.Proofs.Qxb6614172a.Pos
