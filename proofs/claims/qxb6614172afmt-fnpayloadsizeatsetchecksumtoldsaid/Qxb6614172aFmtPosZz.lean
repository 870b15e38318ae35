/-
  By the prover: THE WALKS of zzWord (its two widths, both orders) and zzPosClass.
-/
import Derived.Test.Qxb6614172aFmtPosWord
namespace Go.Proofs.Qxb6614172aFmt.Pos
open Go.RowKit Go.Deep

theorem or_comm64 (a b : Int) : bits .or .u64 a b = bits .or .u64 b a := by
  unfold bits; simp only [BitVec.or_comm]
theorem part_eq {a b : Int} (h : a = b) : Value.int .u64 a = .int .u64 b := by rw [h]
theorem or_zero64 (a : Int) (h0 : 0 ≤ a) (h1 : a < 18446744073709551616) : bits .or .u64 0 a = a := by
  have e : BitVec.ofInt 64 0 = 0#64 := rfl
  unfold bits
  show IntKind.u64.wrap (((BitVec.ofInt 64 0 ||| BitVec.ofInt 64 a).toNat : Nat) : Int) = a
  rw [e, BitVec.zero_or, IntKind.wrap_u64, BitVec.toNat_ofInt]
  omega
theorem step_be8_0 (x : Nat → Int) (o : Nat) (hx : ∀ i, isByte (x i)) : bits .or .u64 (0) (x o * 72057594037927936) = x o * 72057594037927936 := by
  have b0 := hx o; unfold isByte at b0
  exact or_zero64 _ (by omega) (by omega)
theorem step_be8_1 (x : Nat → Int) (o : Nat) (hx : ∀ i, isByte (x i)) : bits .or .u64 (x o * 72057594037927936) (x (o + 1) * 281474976710656) = x o * 72057594037927936 + x (o + 1) * 281474976710656 := by
  have b0 := hx o; have b1 := hx (o + 1); unfold isByte at b0 b1
  rw [or_comm64]; refine (u64_or56 _ _ ?_ ?_ ?_ ?_ ?_).trans ?_ <;> omega
theorem step_be8_2 (x : Nat → Int) (o : Nat) (hx : ∀ i, isByte (x i)) : bits .or .u64 (x o * 72057594037927936 + x (o + 1) * 281474976710656) (x (o + 2) * 1099511627776) = x o * 72057594037927936 + x (o + 1) * 281474976710656 + x (o + 2) * 1099511627776 := by
  have b0 := hx o; have b1 := hx (o + 1); have b2 := hx (o + 2); unfold isByte at b0 b1 b2
  rw [or_comm64]; refine (u64_or48 _ _ ?_ ?_ ?_ ?_ ?_).trans ?_ <;> omega
theorem step_be8_3 (x : Nat → Int) (o : Nat) (hx : ∀ i, isByte (x i)) : bits .or .u64 (x o * 72057594037927936 + x (o + 1) * 281474976710656 + x (o + 2) * 1099511627776) (x (o + 3) * 4294967296) = x o * 72057594037927936 + x (o + 1) * 281474976710656 + x (o + 2) * 1099511627776 + x (o + 3) * 4294967296 := by
  have b0 := hx o; have b1 := hx (o + 1); have b2 := hx (o + 2); have b3 := hx (o + 3); unfold isByte at b0 b1 b2 b3
  rw [or_comm64]; refine (u64_or40 _ _ ?_ ?_ ?_ ?_ ?_).trans ?_ <;> omega
theorem step_be8_4 (x : Nat → Int) (o : Nat) (hx : ∀ i, isByte (x i)) : bits .or .u64 (x o * 72057594037927936 + x (o + 1) * 281474976710656 + x (o + 2) * 1099511627776 + x (o + 3) * 4294967296) (x (o + 4) * 16777216) = x o * 72057594037927936 + x (o + 1) * 281474976710656 + x (o + 2) * 1099511627776 + x (o + 3) * 4294967296 + x (o + 4) * 16777216 := by
  have b0 := hx o; have b1 := hx (o + 1); have b2 := hx (o + 2); have b3 := hx (o + 3); have b4 := hx (o + 4); unfold isByte at b0 b1 b2 b3 b4
  rw [or_comm64]; refine (u64_or32 _ _ ?_ ?_ ?_ ?_ ?_).trans ?_ <;> omega
theorem step_be8_5 (x : Nat → Int) (o : Nat) (hx : ∀ i, isByte (x i)) : bits .or .u64 (x o * 72057594037927936 + x (o + 1) * 281474976710656 + x (o + 2) * 1099511627776 + x (o + 3) * 4294967296 + x (o + 4) * 16777216) (x (o + 5) * 65536) = x o * 72057594037927936 + x (o + 1) * 281474976710656 + x (o + 2) * 1099511627776 + x (o + 3) * 4294967296 + x (o + 4) * 16777216 + x (o + 5) * 65536 := by
  have b0 := hx o; have b1 := hx (o + 1); have b2 := hx (o + 2); have b3 := hx (o + 3); have b4 := hx (o + 4); have b5 := hx (o + 5); unfold isByte at b0 b1 b2 b3 b4 b5
  rw [or_comm64]; refine (u64_or24 _ _ ?_ ?_ ?_ ?_ ?_).trans ?_ <;> omega
theorem step_be8_6 (x : Nat → Int) (o : Nat) (hx : ∀ i, isByte (x i)) : bits .or .u64 (x o * 72057594037927936 + x (o + 1) * 281474976710656 + x (o + 2) * 1099511627776 + x (o + 3) * 4294967296 + x (o + 4) * 16777216 + x (o + 5) * 65536) (x (o + 6) * 256) = x o * 72057594037927936 + x (o + 1) * 281474976710656 + x (o + 2) * 1099511627776 + x (o + 3) * 4294967296 + x (o + 4) * 16777216 + x (o + 5) * 65536 + x (o + 6) * 256 := by
  have b0 := hx o; have b1 := hx (o + 1); have b2 := hx (o + 2); have b3 := hx (o + 3); have b4 := hx (o + 4); have b5 := hx (o + 5); have b6 := hx (o + 6); unfold isByte at b0 b1 b2 b3 b4 b5 b6
  rw [or_comm64]; refine (u64_or16 _ _ ?_ ?_ ?_ ?_ ?_).trans ?_ <;> omega
theorem step_be8_7 (x : Nat → Int) (o : Nat) (hx : ∀ i, isByte (x i)) : bits .or .u64 (x o * 72057594037927936 + x (o + 1) * 281474976710656 + x (o + 2) * 1099511627776 + x (o + 3) * 4294967296 + x (o + 4) * 16777216 + x (o + 5) * 65536 + x (o + 6) * 256) (x (o + 7)) = x o * 72057594037927936 + x (o + 1) * 281474976710656 + x (o + 2) * 1099511627776 + x (o + 3) * 4294967296 + x (o + 4) * 16777216 + x (o + 5) * 65536 + x (o + 6) * 256 + x (o + 7) * 1 := by
  have b0 := hx o; have b1 := hx (o + 1); have b2 := hx (o + 2); have b3 := hx (o + 3); have b4 := hx (o + 4); have b5 := hx (o + 5); have b6 := hx (o + 6); have b7 := hx (o + 7); unfold isByte at b0 b1 b2 b3 b4 b5 b6 b7
  rw [or_comm64]; refine (u64_or8 _ _ ?_ ?_ ?_ ?_ ?_).trans ?_ <;> omega

def part_be8 (x : Nat → Int) (o : Nat) : Nat → Int
  | 0 => 0
  | 1 => x o * 72057594037927936
  | 2 => x o * 72057594037927936 + x (o + 1) * 281474976710656
  | 3 => x o * 72057594037927936 + x (o + 1) * 281474976710656 + x (o + 2) * 1099511627776
  | 4 => x o * 72057594037927936 + x (o + 1) * 281474976710656 + x (o + 2) * 1099511627776 + x (o + 3) * 4294967296
  | 5 => x o * 72057594037927936 + x (o + 1) * 281474976710656 + x (o + 2) * 1099511627776 + x (o + 3) * 4294967296 + x (o + 4) * 16777216
  | 6 => x o * 72057594037927936 + x (o + 1) * 281474976710656 + x (o + 2) * 1099511627776 + x (o + 3) * 4294967296 + x (o + 4) * 16777216 + x (o + 5) * 65536
  | 7 => x o * 72057594037927936 + x (o + 1) * 281474976710656 + x (o + 2) * 1099511627776 + x (o + 3) * 4294967296 + x (o + 4) * 16777216 + x (o + 5) * 65536 + x (o + 6) * 256
  | _ => x o * 72057594037927936 + x (o + 1) * 281474976710656 + x (o + 2) * 1099511627776 + x (o + 3) * 4294967296 + x (o + 4) * 16777216 + x (o + 5) * 65536 + x (o + 6) * 256 + x (o + 7) * 1
theorem done_be8 (x : Nat → Int) (o : Nat) : part_be8 x o 8 = w8 true x o := by
  simp only [part_be8, w8, be8]
  simp only [if_true]
  try omega

set_option maxHeartbeats 1000000 in
theorem word_be8 (arr : Array Value) (x : Nat → Int) (o : Nat) (w : World) (ho : o + 8 ≤ 312) (ha : ∀ i, i < 312 → arr[i]? = some (.int .u8 (x i))) (hx : ∀ i, isByte (x i)) :
    Calls Tryf.prog 7 #[.agg arr, .int .i64 o, .int .i64 8, .bool true] w fun e w' => e = .returned (.int .u64 (w8 true x o)) ∧ Below w.heap.size w w' := by
  have c0 : (w.alloc (.cells arr 22)).cell? ⟨w.heap.size, o, none⟩ = some (.int .u8 (x o)) := by rw [World.cell?_alloc_new]; exact ha _ (by omega)
  have c1 : (w.alloc (.cells arr 22)).cell? ⟨w.heap.size, o + 1, none⟩ = some (.int .u8 (x (o + 1))) := by rw [World.cell?_alloc_new]; exact ha _ (by omega)
  have c2 : (w.alloc (.cells arr 22)).cell? ⟨w.heap.size, o + 2, none⟩ = some (.int .u8 (x (o + 2))) := by rw [World.cell?_alloc_new]; exact ha _ (by omega)
  have c3 : (w.alloc (.cells arr 22)).cell? ⟨w.heap.size, o + 3, none⟩ = some (.int .u8 (x (o + 3))) := by rw [World.cell?_alloc_new]; exact ha _ (by omega)
  have c4 : (w.alloc (.cells arr 22)).cell? ⟨w.heap.size, o + 4, none⟩ = some (.int .u8 (x (o + 4))) := by rw [World.cell?_alloc_new]; exact ha _ (by omega)
  have c5 : (w.alloc (.cells arr 22)).cell? ⟨w.heap.size, o + 5, none⟩ = some (.int .u8 (x (o + 5))) := by rw [World.cell?_alloc_new]; exact ha _ (by omega)
  have c6 : (w.alloc (.cells arr 22)).cell? ⟨w.heap.size, o + 6, none⟩ = some (.int .u8 (x (o + 6))) := by rw [World.cell?_alloc_new]; exact ha _ (by omega)
  have c7 : (w.alloc (.cells arr 22)).cell? ⟨w.heap.size, o + 7, none⟩ = some (.int .u8 (x (o + 7))) := by rw [World.cell?_alloc_new]; exact ha _ (by omega)
  have b0 := hx o
  have b1 := hx (o + 1)
  have b2 := hx (o + 2)
  have b3 := hx (o + 3)
  have b4 := hx (o + 4)
  have b5 := hx (o + 5)
  have b6 := hx (o + 6)
  have b7 := hx (o + 7)
  unfold isByte at b0 b1 b2 b3 b4 b5 b6 b7
  have HX := hide hx
  clear ha hx
  go_enter Tryf.func7, Tryf.ntmps7
  go_wp2
  go_loop [9, 10] (fun X i => ∃ k : Nat, k ≤ 8 ∧ i = .int .i64 k ∧ X = .int .u64 (part_be8 x o k)) (fun _ i => 8 - (intOf i).toNat)
  case atStart => exact ⟨0, by omega, rfl, rfl⟩
  case round =>
    obtain ⟨k, hk, rfl, rfl⟩ := hrel
    obtain rfl | rfl | rfl | rfl | rfl | rfl | rfl | rfl | rfl : k = 0 ∨ k = 1 ∨ k = 2 ∨ k = 3 ∨ k = 4 ∨ k = 5 ∨ k = 6 ∨ k = 7 ∨ k = 8 := by omega
    · go_wp2
      go_round
      case rel => exact ⟨1, by omega, rfl, part_eq (step_be8_0 x o HX.out)⟩
      case measure => simp [intOf]
    · go_wp2
      go_round
      case rel => exact ⟨2, by omega, rfl, part_eq (step_be8_1 x o HX.out)⟩
      case measure => simp [intOf]
    · go_wp2
      go_round
      case rel => exact ⟨3, by omega, rfl, part_eq (step_be8_2 x o HX.out)⟩
      case measure => simp [intOf]
    · go_wp2
      go_round
      case rel => exact ⟨4, by omega, rfl, part_eq (step_be8_3 x o HX.out)⟩
      case measure => simp [intOf]
    · go_wp2
      go_round
      case rel => exact ⟨5, by omega, rfl, part_eq (step_be8_4 x o HX.out)⟩
      case measure => simp [intOf]
    · go_wp2
      go_round
      case rel => exact ⟨6, by omega, rfl, part_eq (step_be8_5 x o HX.out)⟩
      case measure => simp [intOf]
    · go_wp2
      go_round
      case rel => exact ⟨7, by omega, rfl, part_eq (step_be8_6 x o HX.out)⟩
      case measure => simp [intOf]
    · go_wp2
      go_round
      case rel => exact ⟨8, by omega, rfl, part_eq (step_be8_7 x o HX.out)⟩
      case measure => simp [intOf]
    · go_wp2
      go_ret
      exact ⟨by rw [← done_be8]; rfl, (Below.refl _ _).alloc (Nat.le_refl _) _⟩
theorem step_le8_0 (x : Nat → Int) (o : Nat) (hx : ∀ i, isByte (x i)) : bits .or .u64 (0) (x o) = x o * 1 := by
  have b0 := hx o; unfold isByte at b0
  exact (or_zero64 (x o) (by omega) (by omega)).trans (by omega)
theorem step_le8_1 (x : Nat → Int) (o : Nat) (hx : ∀ i, isByte (x i)) : bits .or .u64 (x o * 1) (x (o + 1) * 256) = x o * 1 + x (o + 1) * 256 := by
  have b0 := hx o; have b1 := hx (o + 1); unfold isByte at b0 b1
  exact u64_or8 _ _ (by omega) (by omega) (by omega) (by omega) (by omega)
theorem step_le8_2 (x : Nat → Int) (o : Nat) (hx : ∀ i, isByte (x i)) : bits .or .u64 (x o * 1 + x (o + 1) * 256) (x (o + 2) * 65536) = x o * 1 + x (o + 1) * 256 + x (o + 2) * 65536 := by
  have b0 := hx o; have b1 := hx (o + 1); have b2 := hx (o + 2); unfold isByte at b0 b1 b2
  exact u64_or16 _ _ (by omega) (by omega) (by omega) (by omega) (by omega)
theorem step_le8_3 (x : Nat → Int) (o : Nat) (hx : ∀ i, isByte (x i)) : bits .or .u64 (x o * 1 + x (o + 1) * 256 + x (o + 2) * 65536) (x (o + 3) * 16777216) = x o * 1 + x (o + 1) * 256 + x (o + 2) * 65536 + x (o + 3) * 16777216 := by
  have b0 := hx o; have b1 := hx (o + 1); have b2 := hx (o + 2); have b3 := hx (o + 3); unfold isByte at b0 b1 b2 b3
  exact u64_or24 _ _ (by omega) (by omega) (by omega) (by omega) (by omega)
theorem step_le8_4 (x : Nat → Int) (o : Nat) (hx : ∀ i, isByte (x i)) : bits .or .u64 (x o * 1 + x (o + 1) * 256 + x (o + 2) * 65536 + x (o + 3) * 16777216) (x (o + 4) * 4294967296) = x o * 1 + x (o + 1) * 256 + x (o + 2) * 65536 + x (o + 3) * 16777216 + x (o + 4) * 4294967296 := by
  have b0 := hx o; have b1 := hx (o + 1); have b2 := hx (o + 2); have b3 := hx (o + 3); have b4 := hx (o + 4); unfold isByte at b0 b1 b2 b3 b4
  exact u64_or32 _ _ (by omega) (by omega) (by omega) (by omega) (by omega)
theorem step_le8_5 (x : Nat → Int) (o : Nat) (hx : ∀ i, isByte (x i)) : bits .or .u64 (x o * 1 + x (o + 1) * 256 + x (o + 2) * 65536 + x (o + 3) * 16777216 + x (o + 4) * 4294967296) (x (o + 5) * 1099511627776) = x o * 1 + x (o + 1) * 256 + x (o + 2) * 65536 + x (o + 3) * 16777216 + x (o + 4) * 4294967296 + x (o + 5) * 1099511627776 := by
  have b0 := hx o; have b1 := hx (o + 1); have b2 := hx (o + 2); have b3 := hx (o + 3); have b4 := hx (o + 4); have b5 := hx (o + 5); unfold isByte at b0 b1 b2 b3 b4 b5
  exact u64_or40 _ _ (by omega) (by omega) (by omega) (by omega) (by omega)
theorem step_le8_6 (x : Nat → Int) (o : Nat) (hx : ∀ i, isByte (x i)) : bits .or .u64 (x o * 1 + x (o + 1) * 256 + x (o + 2) * 65536 + x (o + 3) * 16777216 + x (o + 4) * 4294967296 + x (o + 5) * 1099511627776) (x (o + 6) * 281474976710656) = x o * 1 + x (o + 1) * 256 + x (o + 2) * 65536 + x (o + 3) * 16777216 + x (o + 4) * 4294967296 + x (o + 5) * 1099511627776 + x (o + 6) * 281474976710656 := by
  have b0 := hx o; have b1 := hx (o + 1); have b2 := hx (o + 2); have b3 := hx (o + 3); have b4 := hx (o + 4); have b5 := hx (o + 5); have b6 := hx (o + 6); unfold isByte at b0 b1 b2 b3 b4 b5 b6
  exact u64_or48 _ _ (by omega) (by omega) (by omega) (by omega) (by omega)
theorem step_le8_7 (x : Nat → Int) (o : Nat) (hx : ∀ i, isByte (x i)) : bits .or .u64 (x o * 1 + x (o + 1) * 256 + x (o + 2) * 65536 + x (o + 3) * 16777216 + x (o + 4) * 4294967296 + x (o + 5) * 1099511627776 + x (o + 6) * 281474976710656) (x (o + 7) * 72057594037927936) = x o * 1 + x (o + 1) * 256 + x (o + 2) * 65536 + x (o + 3) * 16777216 + x (o + 4) * 4294967296 + x (o + 5) * 1099511627776 + x (o + 6) * 281474976710656 + x (o + 7) * 72057594037927936 := by
  have b0 := hx o; have b1 := hx (o + 1); have b2 := hx (o + 2); have b3 := hx (o + 3); have b4 := hx (o + 4); have b5 := hx (o + 5); have b6 := hx (o + 6); have b7 := hx (o + 7); unfold isByte at b0 b1 b2 b3 b4 b5 b6 b7
  exact u64_or56 _ _ (by omega) (by omega) (by omega) (by omega) (by omega)

def part_le8 (x : Nat → Int) (o : Nat) : Nat → Int
  | 0 => 0
  | 1 => x o * 1
  | 2 => x o * 1 + x (o + 1) * 256
  | 3 => x o * 1 + x (o + 1) * 256 + x (o + 2) * 65536
  | 4 => x o * 1 + x (o + 1) * 256 + x (o + 2) * 65536 + x (o + 3) * 16777216
  | 5 => x o * 1 + x (o + 1) * 256 + x (o + 2) * 65536 + x (o + 3) * 16777216 + x (o + 4) * 4294967296
  | 6 => x o * 1 + x (o + 1) * 256 + x (o + 2) * 65536 + x (o + 3) * 16777216 + x (o + 4) * 4294967296 + x (o + 5) * 1099511627776
  | 7 => x o * 1 + x (o + 1) * 256 + x (o + 2) * 65536 + x (o + 3) * 16777216 + x (o + 4) * 4294967296 + x (o + 5) * 1099511627776 + x (o + 6) * 281474976710656
  | _ => x o * 1 + x (o + 1) * 256 + x (o + 2) * 65536 + x (o + 3) * 16777216 + x (o + 4) * 4294967296 + x (o + 5) * 1099511627776 + x (o + 6) * 281474976710656 + x (o + 7) * 72057594037927936
theorem done_le8 (x : Nat → Int) (o : Nat) : part_le8 x o 8 = w8 false x o := by
  simp only [part_le8, w8, be8]
  simp
  try omega

set_option maxHeartbeats 1000000 in
theorem word_le8 (arr : Array Value) (x : Nat → Int) (o : Nat) (w : World) (ho : o + 8 ≤ 312) (ha : ∀ i, i < 312 → arr[i]? = some (.int .u8 (x i))) (hx : ∀ i, isByte (x i)) :
    Calls Tryf.prog 7 #[.agg arr, .int .i64 o, .int .i64 8, .bool false] w fun e w' => e = .returned (.int .u64 (w8 false x o)) ∧ Below w.heap.size w w' := by
  have c0 : (w.alloc (.cells arr 22)).cell? ⟨w.heap.size, o, none⟩ = some (.int .u8 (x o)) := by rw [World.cell?_alloc_new]; exact ha _ (by omega)
  have c1 : (w.alloc (.cells arr 22)).cell? ⟨w.heap.size, o + 1, none⟩ = some (.int .u8 (x (o + 1))) := by rw [World.cell?_alloc_new]; exact ha _ (by omega)
  have c2 : (w.alloc (.cells arr 22)).cell? ⟨w.heap.size, o + 2, none⟩ = some (.int .u8 (x (o + 2))) := by rw [World.cell?_alloc_new]; exact ha _ (by omega)
  have c3 : (w.alloc (.cells arr 22)).cell? ⟨w.heap.size, o + 3, none⟩ = some (.int .u8 (x (o + 3))) := by rw [World.cell?_alloc_new]; exact ha _ (by omega)
  have c4 : (w.alloc (.cells arr 22)).cell? ⟨w.heap.size, o + 4, none⟩ = some (.int .u8 (x (o + 4))) := by rw [World.cell?_alloc_new]; exact ha _ (by omega)
  have c5 : (w.alloc (.cells arr 22)).cell? ⟨w.heap.size, o + 5, none⟩ = some (.int .u8 (x (o + 5))) := by rw [World.cell?_alloc_new]; exact ha _ (by omega)
  have c6 : (w.alloc (.cells arr 22)).cell? ⟨w.heap.size, o + 6, none⟩ = some (.int .u8 (x (o + 6))) := by rw [World.cell?_alloc_new]; exact ha _ (by omega)
  have c7 : (w.alloc (.cells arr 22)).cell? ⟨w.heap.size, o + 7, none⟩ = some (.int .u8 (x (o + 7))) := by rw [World.cell?_alloc_new]; exact ha _ (by omega)
  have b0 := hx o
  have b1 := hx (o + 1)
  have b2 := hx (o + 2)
  have b3 := hx (o + 3)
  have b4 := hx (o + 4)
  have b5 := hx (o + 5)
  have b6 := hx (o + 6)
  have b7 := hx (o + 7)
  unfold isByte at b0 b1 b2 b3 b4 b5 b6 b7
  have HX := hide hx
  clear ha hx
  go_enter Tryf.func7, Tryf.ntmps7
  go_wp2
  go_loop [9, 10] (fun X i => ∃ k : Nat, k ≤ 8 ∧ i = .int .i64 k ∧ X = .int .u64 (part_le8 x o k)) (fun _ i => 8 - (intOf i).toNat)
  case atStart => exact ⟨0, by omega, rfl, rfl⟩
  case round =>
    obtain ⟨k, hk, rfl, rfl⟩ := hrel
    obtain rfl | rfl | rfl | rfl | rfl | rfl | rfl | rfl | rfl : k = 0 ∨ k = 1 ∨ k = 2 ∨ k = 3 ∨ k = 4 ∨ k = 5 ∨ k = 6 ∨ k = 7 ∨ k = 8 := by omega
    · go_wp2
      go_round
      case rel => exact ⟨1, by omega, rfl, part_eq (step_le8_0 x o HX.out)⟩
      case measure => simp [intOf]
    · go_wp2
      go_round
      case rel => exact ⟨2, by omega, rfl, part_eq (step_le8_1 x o HX.out)⟩
      case measure => simp [intOf]
    · go_wp2
      go_round
      case rel => exact ⟨3, by omega, rfl, part_eq (step_le8_2 x o HX.out)⟩
      case measure => simp [intOf]
    · go_wp2
      go_round
      case rel => exact ⟨4, by omega, rfl, part_eq (step_le8_3 x o HX.out)⟩
      case measure => simp [intOf]
    · go_wp2
      go_round
      case rel => exact ⟨5, by omega, rfl, part_eq (step_le8_4 x o HX.out)⟩
      case measure => simp [intOf]
    · go_wp2
      go_round
      case rel => exact ⟨6, by omega, rfl, part_eq (step_le8_5 x o HX.out)⟩
      case measure => simp [intOf]
    · go_wp2
      go_round
      case rel => exact ⟨7, by omega, rfl, part_eq (step_le8_6 x o HX.out)⟩
      case measure => simp [intOf]
    · go_wp2
      go_round
      case rel => exact ⟨8, by omega, rfl, part_eq (step_le8_7 x o HX.out)⟩
      case measure => simp [intOf]
    · go_wp2
      go_ret
      exact ⟨by rw [← done_le8]; rfl, (Below.refl _ _).alloc (Nat.le_refl _) _⟩
theorem step_be4_0 (x : Nat → Int) (o : Nat) (hx : ∀ i, isByte (x i)) : bits .or .u64 (0) (x o * 16777216) = x o * 16777216 := by
  have b0 := hx o; unfold isByte at b0
  exact or_zero64 _ (by omega) (by omega)
theorem step_be4_1 (x : Nat → Int) (o : Nat) (hx : ∀ i, isByte (x i)) : bits .or .u64 (x o * 16777216) (x (o + 1) * 65536) = x o * 16777216 + x (o + 1) * 65536 := by
  have b0 := hx o; have b1 := hx (o + 1); unfold isByte at b0 b1
  rw [or_comm64]; refine (u64_or24 _ _ ?_ ?_ ?_ ?_ ?_).trans ?_ <;> omega
theorem step_be4_2 (x : Nat → Int) (o : Nat) (hx : ∀ i, isByte (x i)) : bits .or .u64 (x o * 16777216 + x (o + 1) * 65536) (x (o + 2) * 256) = x o * 16777216 + x (o + 1) * 65536 + x (o + 2) * 256 := by
  have b0 := hx o; have b1 := hx (o + 1); have b2 := hx (o + 2); unfold isByte at b0 b1 b2
  rw [or_comm64]; refine (u64_or16 _ _ ?_ ?_ ?_ ?_ ?_).trans ?_ <;> omega
theorem step_be4_3 (x : Nat → Int) (o : Nat) (hx : ∀ i, isByte (x i)) : bits .or .u64 (x o * 16777216 + x (o + 1) * 65536 + x (o + 2) * 256) (x (o + 3)) = x o * 16777216 + x (o + 1) * 65536 + x (o + 2) * 256 + x (o + 3) * 1 := by
  have b0 := hx o; have b1 := hx (o + 1); have b2 := hx (o + 2); have b3 := hx (o + 3); unfold isByte at b0 b1 b2 b3
  rw [or_comm64]; refine (u64_or8 _ _ ?_ ?_ ?_ ?_ ?_).trans ?_ <;> omega

def part_be4 (x : Nat → Int) (o : Nat) : Nat → Int
  | 0 => 0
  | 1 => x o * 16777216
  | 2 => x o * 16777216 + x (o + 1) * 65536
  | 3 => x o * 16777216 + x (o + 1) * 65536 + x (o + 2) * 256
  | _ => x o * 16777216 + x (o + 1) * 65536 + x (o + 2) * 256 + x (o + 3) * 1
theorem done_be4 (x : Nat → Int) (o : Nat) : part_be4 x o 4 = w4 true x o := by
  simp only [part_be4, w4, be4]
  simp only [if_true]
  try omega

set_option maxHeartbeats 1000000 in
theorem word_be4 (arr : Array Value) (x : Nat → Int) (o : Nat) (w : World) (ho : o + 4 ≤ 312) (ha : ∀ i, i < 312 → arr[i]? = some (.int .u8 (x i))) (hx : ∀ i, isByte (x i)) :
    Calls Tryf.prog 7 #[.agg arr, .int .i64 o, .int .i64 4, .bool true] w fun e w' => e = .returned (.int .u64 (w4 true x o)) ∧ Below w.heap.size w w' := by
  have c0 : (w.alloc (.cells arr 22)).cell? ⟨w.heap.size, o, none⟩ = some (.int .u8 (x o)) := by rw [World.cell?_alloc_new]; exact ha _ (by omega)
  have c1 : (w.alloc (.cells arr 22)).cell? ⟨w.heap.size, o + 1, none⟩ = some (.int .u8 (x (o + 1))) := by rw [World.cell?_alloc_new]; exact ha _ (by omega)
  have c2 : (w.alloc (.cells arr 22)).cell? ⟨w.heap.size, o + 2, none⟩ = some (.int .u8 (x (o + 2))) := by rw [World.cell?_alloc_new]; exact ha _ (by omega)
  have c3 : (w.alloc (.cells arr 22)).cell? ⟨w.heap.size, o + 3, none⟩ = some (.int .u8 (x (o + 3))) := by rw [World.cell?_alloc_new]; exact ha _ (by omega)
  have b0 := hx o
  have b1 := hx (o + 1)
  have b2 := hx (o + 2)
  have b3 := hx (o + 3)
  unfold isByte at b0 b1 b2 b3
  have HX := hide hx
  clear ha hx
  go_enter Tryf.func7, Tryf.ntmps7
  go_wp2
  go_loop [9, 10] (fun X i => ∃ k : Nat, k ≤ 4 ∧ i = .int .i64 k ∧ X = .int .u64 (part_be4 x o k)) (fun _ i => 4 - (intOf i).toNat)
  case atStart => exact ⟨0, by omega, rfl, rfl⟩
  case round =>
    obtain ⟨k, hk, rfl, rfl⟩ := hrel
    obtain rfl | rfl | rfl | rfl | rfl : k = 0 ∨ k = 1 ∨ k = 2 ∨ k = 3 ∨ k = 4 := by omega
    · go_wp2
      go_round
      case rel => exact ⟨1, by omega, rfl, part_eq (step_be4_0 x o HX.out)⟩
      case measure => simp [intOf]
    · go_wp2
      go_round
      case rel => exact ⟨2, by omega, rfl, part_eq (step_be4_1 x o HX.out)⟩
      case measure => simp [intOf]
    · go_wp2
      go_round
      case rel => exact ⟨3, by omega, rfl, part_eq (step_be4_2 x o HX.out)⟩
      case measure => simp [intOf]
    · go_wp2
      go_round
      case rel => exact ⟨4, by omega, rfl, part_eq (step_be4_3 x o HX.out)⟩
      case measure => simp [intOf]
    · go_wp2
      go_ret
      exact ⟨by rw [← done_be4]; rfl, (Below.refl _ _).alloc (Nat.le_refl _) _⟩
theorem step_le4_0 (x : Nat → Int) (o : Nat) (hx : ∀ i, isByte (x i)) : bits .or .u64 (0) (x o) = x o * 1 := by
  have b0 := hx o; unfold isByte at b0
  exact (or_zero64 (x o) (by omega) (by omega)).trans (by omega)
theorem step_le4_1 (x : Nat → Int) (o : Nat) (hx : ∀ i, isByte (x i)) : bits .or .u64 (x o * 1) (x (o + 1) * 256) = x o * 1 + x (o + 1) * 256 := by
  have b0 := hx o; have b1 := hx (o + 1); unfold isByte at b0 b1
  exact u64_or8 _ _ (by omega) (by omega) (by omega) (by omega) (by omega)
theorem step_le4_2 (x : Nat → Int) (o : Nat) (hx : ∀ i, isByte (x i)) : bits .or .u64 (x o * 1 + x (o + 1) * 256) (x (o + 2) * 65536) = x o * 1 + x (o + 1) * 256 + x (o + 2) * 65536 := by
  have b0 := hx o; have b1 := hx (o + 1); have b2 := hx (o + 2); unfold isByte at b0 b1 b2
  exact u64_or16 _ _ (by omega) (by omega) (by omega) (by omega) (by omega)
theorem step_le4_3 (x : Nat → Int) (o : Nat) (hx : ∀ i, isByte (x i)) : bits .or .u64 (x o * 1 + x (o + 1) * 256 + x (o + 2) * 65536) (x (o + 3) * 16777216) = x o * 1 + x (o + 1) * 256 + x (o + 2) * 65536 + x (o + 3) * 16777216 := by
  have b0 := hx o; have b1 := hx (o + 1); have b2 := hx (o + 2); have b3 := hx (o + 3); unfold isByte at b0 b1 b2 b3
  exact u64_or24 _ _ (by omega) (by omega) (by omega) (by omega) (by omega)

def part_le4 (x : Nat → Int) (o : Nat) : Nat → Int
  | 0 => 0
  | 1 => x o * 1
  | 2 => x o * 1 + x (o + 1) * 256
  | 3 => x o * 1 + x (o + 1) * 256 + x (o + 2) * 65536
  | _ => x o * 1 + x (o + 1) * 256 + x (o + 2) * 65536 + x (o + 3) * 16777216
theorem done_le4 (x : Nat → Int) (o : Nat) : part_le4 x o 4 = w4 false x o := by
  simp only [part_le4, w4, be4]
  simp
  try omega

set_option maxHeartbeats 1000000 in
theorem word_le4 (arr : Array Value) (x : Nat → Int) (o : Nat) (w : World) (ho : o + 4 ≤ 312) (ha : ∀ i, i < 312 → arr[i]? = some (.int .u8 (x i))) (hx : ∀ i, isByte (x i)) :
    Calls Tryf.prog 7 #[.agg arr, .int .i64 o, .int .i64 4, .bool false] w fun e w' => e = .returned (.int .u64 (w4 false x o)) ∧ Below w.heap.size w w' := by
  have c0 : (w.alloc (.cells arr 22)).cell? ⟨w.heap.size, o, none⟩ = some (.int .u8 (x o)) := by rw [World.cell?_alloc_new]; exact ha _ (by omega)
  have c1 : (w.alloc (.cells arr 22)).cell? ⟨w.heap.size, o + 1, none⟩ = some (.int .u8 (x (o + 1))) := by rw [World.cell?_alloc_new]; exact ha _ (by omega)
  have c2 : (w.alloc (.cells arr 22)).cell? ⟨w.heap.size, o + 2, none⟩ = some (.int .u8 (x (o + 2))) := by rw [World.cell?_alloc_new]; exact ha _ (by omega)
  have c3 : (w.alloc (.cells arr 22)).cell? ⟨w.heap.size, o + 3, none⟩ = some (.int .u8 (x (o + 3))) := by rw [World.cell?_alloc_new]; exact ha _ (by omega)
  have b0 := hx o
  have b1 := hx (o + 1)
  have b2 := hx (o + 2)
  have b3 := hx (o + 3)
  unfold isByte at b0 b1 b2 b3
  have HX := hide hx
  clear ha hx
  go_enter Tryf.func7, Tryf.ntmps7
  go_wp2
  go_loop [9, 10] (fun X i => ∃ k : Nat, k ≤ 4 ∧ i = .int .i64 k ∧ X = .int .u64 (part_le4 x o k)) (fun _ i => 4 - (intOf i).toNat)
  case atStart => exact ⟨0, by omega, rfl, rfl⟩
  case round =>
    obtain ⟨k, hk, rfl, rfl⟩ := hrel
    obtain rfl | rfl | rfl | rfl | rfl : k = 0 ∨ k = 1 ∨ k = 2 ∨ k = 3 ∨ k = 4 := by omega
    · go_wp2
      go_round
      case rel => exact ⟨1, by omega, rfl, part_eq (step_le4_0 x o HX.out)⟩
      case measure => simp [intOf]
    · go_wp2
      go_round
      case rel => exact ⟨2, by omega, rfl, part_eq (step_le4_1 x o HX.out)⟩
      case measure => simp [intOf]
    · go_wp2
      go_round
      case rel => exact ⟨3, by omega, rfl, part_eq (step_le4_2 x o HX.out)⟩
      case measure => simp [intOf]
    · go_wp2
      go_round
      case rel => exact ⟨4, by omega, rfl, part_eq (step_le4_3 x o HX.out)⟩
      case measure => simp [intOf]
    · go_wp2
      go_ret
      exact ⟨by rw [← done_le4]; rfl, (Below.refl _ _).alloc (Nat.le_refl _) _⟩

theorem zword8 (big : Bool) (arr : Array Value) (x : Nat → Int) (o : Nat) (w : World) (ho : o + 8 ≤ 312) (ha : ∀ i, i < 312 → arr[i]? = some (.int .u8 (x i))) (hx : ∀ i, isByte (x i)) :
    Calls Tryf.prog 7 #[.agg arr, .int .i64 o, .int .i64 8, .bool big] w fun e w' => e = .returned (.int .u64 (w8 big x o)) ∧ Below w.heap.size w w' := by
  cases big
  · exact word_le8 arr x o w ho ha hx
  · exact word_be8 arr x o w ho ha hx
theorem zword4 (big : Bool) (arr : Array Value) (x : Nat → Int) (o : Nat) (w : World) (ho : o + 4 ≤ 312) (ha : ∀ i, i < 312 → arr[i]? = some (.int .u8 (x i))) (hx : ∀ i, isByte (x i)) :
    Calls Tryf.prog 7 #[.agg arr, .int .i64 o, .int .i64 4, .bool big] w fun e w' => e = .returned (.int .u64 (w4 big x o)) ∧ Below w.heap.size w w' := by
  cases big
  · exact word_le4 arr x o w ho ha hx
  · exact word_be4 arr x o w ho ha hx

end Go.Proofs.Qxb6614172aFmt.Pos
