/-
  By the prover: THE WALKS of encoding/binary's Uint32, Uint64 in both orders, over the seat's program.
-/
import Derived.Test.Qxb6614172aFmtPosRec
namespace Go.Proofs.Qxb6614172aFmt.Pos
open Go.RowKit Go.Deep

/-- What eight (four) bytes spell, the greatest first. -/
def be8 (b0 b1 b2 b3 b4 b5 b6 b7 : Int) : Int := b7 + b6 * 256 + b5 * 65536 + b4 * 16777216 + b3 * 4294967296 + b2 * 1099511627776 + b1 * 281474976710656 + b0 * 72057594037927936
def be4 (b0 b1 b2 b3 : Int) : Int := b3 + b2 * 256 + b1 * 65536 + b0 * 16777216

def isByte (b : Int) : Prop := 0 ≤ b ∧ b < 256

set_option maxHeartbeats 1000000 in
theorem be_uint64 (p o n c : Nat) (b0 b1 b2 b3 b4 b5 b6 b7 : Int) (w : World) (hn : 8 ≤ n)
    (c0 : w.cell? ⟨p, o, none⟩ = some (.int .u8 b0)) (c1 : w.cell? ⟨p, o + 1, none⟩ = some (.int .u8 b1)) (c2 : w.cell? ⟨p, o + 2, none⟩ = some (.int .u8 b2)) (c3 : w.cell? ⟨p, o + 3, none⟩ = some (.int .u8 b3)) (c4 : w.cell? ⟨p, o + 4, none⟩ = some (.int .u8 b4)) (c5 : w.cell? ⟨p, o + 5, none⟩ = some (.int .u8 b5)) (c6 : w.cell? ⟨p, o + 6, none⟩ = some (.int .u8 b6)) (c7 : w.cell? ⟨p, o + 7, none⟩ = some (.int .u8 b7))
    (h0 : isByte b0) (h1 : isByte b1) (h2 : isByte b2) (h3 : isByte b3) (h4 : isByte b4) (h5 : isByte b5) (h6 : isByte b6) (h7 : isByte b7) :
    Calls Tryf.prog 40 #[.agg #[], .slice (some ⟨p, o, none⟩) n c] w fun e w' => e = .returned (.int .u64 (be8 b0 b1 b2 b3 b4 b5 b6 b7)) ∧ Below w.heap.size w w' := by
  unfold isByte at h0 h1 h2 h3 h4 h5 h6 h7
  have hp : p < w.heap.size := World.block_lt_of_cell? _ _ c0
  have q0 : 0 < n := by omega
  have q1 : (1 : Int) < (n : Int) := by omega
  have q2 : (2 : Int) < (n : Int) := by omega
  have q3 : (3 : Int) < (n : Int) := by omega
  have q4 : (4 : Int) < (n : Int) := by omega
  have q5 : (5 : Int) < (n : Int) := by omega
  have q6 : (6 : Int) < (n : Int) := by omega
  have q7 : (7 : Int) < (n : Int) := by omega
  go_enter Tryf.func40, Tryf.ntmps40
  go_wp2
  go_quiet (fail)
  go_wp2
  go_ret
  refine ⟨?_, ((Below.refl _ w).alloc (Nat.le_refl _) _).trans ⟨rfl, rfl, rfl, Nat.le_refl _, fun _ _ => rfl⟩⟩
  simp (disch := omega) only [u64_or8, u64_or16, u64_or24, u64_or32, u64_or40, u64_or48, u64_or56]
  rfl

set_option maxHeartbeats 1000000 in
theorem le_uint64 (p o n c : Nat) (b0 b1 b2 b3 b4 b5 b6 b7 : Int) (w : World) (hn : 8 ≤ n)
    (c0 : w.cell? ⟨p, o, none⟩ = some (.int .u8 b0)) (c1 : w.cell? ⟨p, o + 1, none⟩ = some (.int .u8 b1)) (c2 : w.cell? ⟨p, o + 2, none⟩ = some (.int .u8 b2)) (c3 : w.cell? ⟨p, o + 3, none⟩ = some (.int .u8 b3)) (c4 : w.cell? ⟨p, o + 4, none⟩ = some (.int .u8 b4)) (c5 : w.cell? ⟨p, o + 5, none⟩ = some (.int .u8 b5)) (c6 : w.cell? ⟨p, o + 6, none⟩ = some (.int .u8 b6)) (c7 : w.cell? ⟨p, o + 7, none⟩ = some (.int .u8 b7))
    (h0 : isByte b0) (h1 : isByte b1) (h2 : isByte b2) (h3 : isByte b3) (h4 : isByte b4) (h5 : isByte b5) (h6 : isByte b6) (h7 : isByte b7) :
    Calls Tryf.prog 48 #[.agg #[], .slice (some ⟨p, o, none⟩) n c] w fun e w' => e = .returned (.int .u64 (be8 b7 b6 b5 b4 b3 b2 b1 b0)) ∧ Below w.heap.size w w' := by
  unfold isByte at h0 h1 h2 h3 h4 h5 h6 h7
  have hp : p < w.heap.size := World.block_lt_of_cell? _ _ c0
  have q0 : 0 < n := by omega
  have q1 : (1 : Int) < (n : Int) := by omega
  have q2 : (2 : Int) < (n : Int) := by omega
  have q3 : (3 : Int) < (n : Int) := by omega
  have q4 : (4 : Int) < (n : Int) := by omega
  have q5 : (5 : Int) < (n : Int) := by omega
  have q6 : (6 : Int) < (n : Int) := by omega
  have q7 : (7 : Int) < (n : Int) := by omega
  go_enter Tryf.func48, Tryf.ntmps48
  go_wp2
  go_quiet (fail)
  go_wp2
  go_ret
  refine ⟨?_, ((Below.refl _ w).alloc (Nat.le_refl _) _).trans ⟨rfl, rfl, rfl, Nat.le_refl _, fun _ _ => rfl⟩⟩
  simp (disch := omega) only [u64_or8, u64_or16, u64_or24, u64_or32, u64_or40, u64_or48, u64_or56]
  rfl

set_option maxHeartbeats 1000000 in
theorem be_uint32 (p o n c : Nat) (b0 b1 b2 b3 : Int) (w : World) (hn : 4 ≤ n)
    (c0 : w.cell? ⟨p, o, none⟩ = some (.int .u8 b0)) (c1 : w.cell? ⟨p, o + 1, none⟩ = some (.int .u8 b1)) (c2 : w.cell? ⟨p, o + 2, none⟩ = some (.int .u8 b2)) (c3 : w.cell? ⟨p, o + 3, none⟩ = some (.int .u8 b3))
    (h0 : isByte b0) (h1 : isByte b1) (h2 : isByte b2) (h3 : isByte b3) :
    Calls Tryf.prog 39 #[.agg #[], .slice (some ⟨p, o, none⟩) n c] w fun e w' => e = .returned (.int .u32 (be4 b0 b1 b2 b3)) ∧ Below w.heap.size w w' := by
  unfold isByte at h0 h1 h2 h3
  have hp : p < w.heap.size := World.block_lt_of_cell? _ _ c0
  have q0 : 0 < n := by omega
  have q1 : (1 : Int) < (n : Int) := by omega
  have q2 : (2 : Int) < (n : Int) := by omega
  have q3 : (3 : Int) < (n : Int) := by omega
  go_enter Tryf.func39, Tryf.ntmps39
  go_wp2
  go_quiet (fail)
  go_wp2
  go_ret
  refine ⟨?_, ((Below.refl _ w).alloc (Nat.le_refl _) _).trans ⟨rfl, rfl, rfl, Nat.le_refl _, fun _ _ => rfl⟩⟩
  simp (disch := omega) only [u32_or8, u32_or16, u32_or24]
  rfl

set_option maxHeartbeats 1000000 in
theorem le_uint32 (p o n c : Nat) (b0 b1 b2 b3 : Int) (w : World) (hn : 4 ≤ n)
    (c0 : w.cell? ⟨p, o, none⟩ = some (.int .u8 b0)) (c1 : w.cell? ⟨p, o + 1, none⟩ = some (.int .u8 b1)) (c2 : w.cell? ⟨p, o + 2, none⟩ = some (.int .u8 b2)) (c3 : w.cell? ⟨p, o + 3, none⟩ = some (.int .u8 b3))
    (h0 : isByte b0) (h1 : isByte b1) (h2 : isByte b2) (h3 : isByte b3) :
    Calls Tryf.prog 47 #[.agg #[], .slice (some ⟨p, o, none⟩) n c] w fun e w' => e = .returned (.int .u32 (be4 b3 b2 b1 b0)) ∧ Below w.heap.size w w' := by
  unfold isByte at h0 h1 h2 h3
  have hp : p < w.heap.size := World.block_lt_of_cell? _ _ c0
  have q0 : 0 < n := by omega
  have q1 : (1 : Int) < (n : Int) := by omega
  have q2 : (2 : Int) < (n : Int) := by omega
  have q3 : (3 : Int) < (n : Int) := by omega
  go_enter Tryf.func47, Tryf.ntmps47
  go_wp2
  go_quiet (fail)
  go_wp2
  go_ret
  refine ⟨?_, ((Below.refl _ w).alloc (Nat.le_refl _) _).trans ⟨rfl, rfl, rfl, Nat.le_refl _, fun _ _ => rfl⟩⟩
  simp (disch := omega) only [u32_or8, u32_or16, u32_or24]
  rfl
end Go.Proofs.Qxb6614172aFmt.Pos
