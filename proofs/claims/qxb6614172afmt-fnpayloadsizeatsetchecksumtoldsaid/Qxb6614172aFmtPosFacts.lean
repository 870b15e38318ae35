/-
  By the prover: THE PLAIN LAW: words of a row of bytes behind a word that was laid into it.
-/
import Derived.Test.Qxb6614172aFmtPosSet
namespace Go.Proofs.Qxb6614172aFmt.Pos

theorem len8 (big : Bool) (u : Int) : (if big = true then bytes8 u else (bytes8 u).reverse).length = 8 := by cases big <;> rfl
theorem len4 (big : Bool) (u : Int) : (if big = true then bytes4 u else (bytes4 u).reverse).length = 4 := by cases big <;> rfl

theorem put8_out (big : Bool) (x : Nat → Int) (o : Nat) (u : Int) (i : Nat) (h : i < o ∨ o + 8 ≤ i) : put8 big x o u i = x i := by
  unfold put8; exact putB_out _ _ _ _ (by rw [len8]; exact h)
theorem put4_out (big : Bool) (x : Nat → Int) (o : Nat) (u : Int) (i : Nat) (h : i < o ∨ o + 4 ≤ i) : put4 big x o u i = x i := by
  unfold put4; exact putB_out _ _ _ _ (by rw [len4]; exact h)
theorem put8_at (big : Bool) (x : Nat → Int) (o : Nat) (u : Int) (j : Nat) (h : j < 8) : put8 big x o u (o + j) = (if big = true then bytes8 u else (bytes8 u).reverse).getD j 0 := by
  unfold put8; exact putB_in _ _ _ _ (by rw [len8]; exact h)
theorem put4_at (big : Bool) (x : Nat → Int) (o : Nat) (u : Int) (j : Nat) (h : j < 4) : put4 big x o u (o + j) = (if big = true then bytes4 u else (bytes4 u).reverse).getD j 0 := by
  unfold put4; exact putB_in _ _ _ _ (by rw [len4]; exact h)

theorem bytes8_byte (u : Int) (hu : isU64 u) : ∀ b ∈ bytes8 u, isByte b := by
  unfold isU64 at hu
  intro b hb
  simp only [bytes8, List.mem_cons, List.not_mem_nil, or_false] at hb
  unfold isByte
  rcases hb with h | h | h | h | h | h | h | h <;> omega
theorem bytes4_byte (u : Int) (h0 : 0 ≤ u) (h1 : u < 4294967296) : ∀ b ∈ bytes4 u, isByte b := by
  intro b hb
  simp only [bytes4, List.mem_cons, List.not_mem_nil, or_false] at hb
  unfold isByte
  rcases hb with h | h | h | h <;> omega

theorem byte_putB (x : Nat → Int) (o : Nat) (bs : List Int) (hx : ∀ i, isByte (x i)) (hb : ∀ b ∈ bs, isByte b) (i : Nat) : isByte (putB x o bs i) := by
  unfold putB
  split
  · rename_i h
    rw [List.getD_eq_getElem?_getD, List.getElem?_eq_getElem (by omega)]
    exact hb _ (List.getElem_mem _)
  · exact hx i
theorem byte_put8 (big : Bool) (x : Nat → Int) (o : Nat) (u : Int) (hx : ∀ i, isByte (x i)) (hu : isU64 u) (i : Nat) : isByte (put8 big x o u i) := by
  unfold put8
  refine byte_putB x o _ hx ?_ i
  intro b hb
  refine bytes8_byte u hu b ?_
  cases big
  · simpa using hb
  · simpa using hb
theorem byte_put4 (big : Bool) (x : Nat → Int) (o : Nat) (u : Int) (hx : ∀ i, isByte (x i)) (h0 : 0 ≤ u) (h1 : u < 4294967296) (i : Nat) : isByte (put4 big x o u i) := by
  unfold put4
  refine byte_putB x o _ hx ?_ i
  intro b hb
  refine bytes4_byte u h0 h1 b ?_
  cases big
  · simpa using hb
  · simpa using hb

theorem w8_congr (big : Bool) (x y : Nat → Int) (o : Nat) (h : ∀ j, j < 8 → x (o + j) = y (o + j)) : w8 big x o = w8 big y o := by
  have h0 := h 0 (by omega); have h1 := h 1 (by omega); have h2 := h 2 (by omega); have h3 := h 3 (by omega)
  have h4 := h 4 (by omega); have h5 := h 5 (by omega); have h6 := h 6 (by omega); have h7 := h 7 (by omega)
  rw [Nat.add_zero] at h0
  unfold w8
  rw [h0, h1, h2, h3, h4, h5, h6, h7]
theorem w4_congr (big : Bool) (x y : Nat → Int) (o : Nat) (h : ∀ j, j < 4 → x (o + j) = y (o + j)) : w4 big x o = w4 big y o := by
  have h0 := h 0 (by omega); have h1 := h 1 (by omega); have h2 := h 2 (by omega); have h3 := h 3 (by omega)
  rw [Nat.add_zero] at h0
  unfold w4
  rw [h0, h1, h2, h3]

theorem w8_put8_far (big : Bool) (x : Nat → Int) (o o' : Nat) (u : Int) (h : o' + 8 ≤ o ∨ o + 8 ≤ o') : w8 big (put8 big x o u) o' = w8 big x o' :=
  w8_congr big _ _ o' fun j hj => put8_out big x o u _ (by omega)
theorem w4_put8_far (big : Bool) (x : Nat → Int) (o o' : Nat) (u : Int) (h : o' + 4 ≤ o ∨ o + 8 ≤ o') : w4 big (put8 big x o u) o' = w4 big x o' :=
  w4_congr big _ _ o' fun j hj => put8_out big x o u _ (by omega)
theorem w8_put4_far (big : Bool) (x : Nat → Int) (o o' : Nat) (u : Int) (h : o' + 8 ≤ o ∨ o + 4 ≤ o') : w8 big (put4 big x o u) o' = w8 big x o' :=
  w8_congr big _ _ o' fun j hj => put4_out big x o u _ (by omega)
theorem w4_put4_far (big : Bool) (x : Nat → Int) (o o' : Nat) (u : Int) (h : o' + 4 ≤ o ∨ o + 4 ≤ o') : w4 big (put4 big x o u) o' = w4 big x o' :=
  w4_congr big _ _ o' fun j hj => put4_out big x o u _ (by omega)

theorem be8_bytes (u : Int) : be8 (u / 72057594037927936) (u / 281474976710656 % 256) (u / 1099511627776 % 256) (u / 4294967296 % 256) (u / 16777216 % 256) (u / 65536 % 256) (u / 256 % 256) (u % 256) = u := by
  unfold be8; omega
theorem w8_put8_same (big : Bool) (x : Nat → Int) (o : Nat) (u : Int) : w8 big (put8 big x o u) o = u := by
  have h0 := put8_at big x o u 0 (by omega); have h1 := put8_at big x o u 1 (by omega); have h2 := put8_at big x o u 2 (by omega); have h3 := put8_at big x o u 3 (by omega)
  have h4 := put8_at big x o u 4 (by omega); have h5 := put8_at big x o u 5 (by omega); have h6 := put8_at big x o u 6 (by omega); have h7 := put8_at big x o u 7 (by omega)
  rw [Nat.add_zero] at h0
  unfold w8
  rw [h0, h1, h2, h3, h4, h5, h6, h7]
  cases big
  · exact be8_bytes u
  · exact be8_bytes u

/-- What Position reads behind SetChecksum. -/
theorem sums_byte (big : Bool) (x : Nat → Int) (s0 s1 s2 s3 : Int) (hx : ∀ i, isByte (x i)) (h0 : isU64 s0) (h1 : isU64 s1) (h2 : isU64 s2) (h3 : isU64 s3) (i : Nat) : isByte (sums big x s0 s1 s2 s3 4 i) :=
  byte_put8 _ _ _ _ (fun i => byte_put8 _ _ _ _ (fun i => byte_put8 _ _ _ _ (fun i => byte_put8 _ _ _ _ hx h0 i) h1 i) h2 i) h3 i
theorem sums_type (big : Bool) (x : Nat → Int) (s0 s1 s2 s3 : Int) : w4 big (sums big x s0 s1 s2 s3 4) 0 = w4 big x 0 := by
  show w4 big (put8 big (put8 big (put8 big (put8 big x 8 s0) 16 s1) 24 s2) 32 s3) 0 = _
  rw [w4_put8_far _ _ _ _ _ (by omega), w4_put8_far _ _ _ _ _ (by omega), w4_put8_far _ _ _ _ _ (by omega), w4_put8_far _ _ _ _ _ (by omega)]
theorem sums_8 (big : Bool) (x : Nat → Int) (s0 s1 s2 s3 : Int) : w8 big (sums big x s0 s1 s2 s3 4) 8 = s0 := by
  show w8 big (put8 big (put8 big (put8 big (put8 big x 8 s0) 16 s1) 24 s2) 32 s3) 8 = _
  rw [w8_put8_far _ _ _ _ _ (by omega), w8_put8_far _ _ _ _ _ (by omega), w8_put8_far _ _ _ _ _ (by omega), w8_put8_same]
theorem sums_16 (big : Bool) (x : Nat → Int) (s0 s1 s2 s3 : Int) : w8 big (sums big x s0 s1 s2 s3 4) 16 = s1 := by
  show w8 big (put8 big (put8 big (put8 big (put8 big x 8 s0) 16 s1) 24 s2) 32 s3) 16 = _
  rw [w8_put8_far _ _ _ _ _ (by omega), w8_put8_far _ _ _ _ _ (by omega), w8_put8_same]
theorem sums_24 (big : Bool) (x : Nat → Int) (s0 s1 s2 s3 : Int) : w8 big (sums big x s0 s1 s2 s3 4) 24 = s2 := by
  show w8 big (put8 big (put8 big (put8 big (put8 big x 8 s0) 16 s1) 24 s2) 32 s3) 24 = _
  rw [w8_put8_far _ _ _ _ _ (by omega), w8_put8_same]
theorem checksum_any (big : Bool) (x : Nat → Int) (p : Nat) (s0 s1 s2 s3 : Int) (w : World) (h0 : isU64 s0) (h1 : isU64 s1) (h2 : isU64 s2) (h3 : isU64 s3) (hR : Rec big x p w) :
    Calls Tryf.prog 5 #[.pointer (some ⟨p, 0, none⟩), .agg #[.int .u64 s0, .int .u64 s1, .int .u64 s2, .int .u64 s3]] w fun e w' => e = .returned (.tuple #[]) ∧ Rec big (sums big x s0 s1 s2 s3 4) p w' ∧ RowKit.Below p w w' := by
  cases big
  · exact checksum_le x p s0 s1 s2 s3 w h0 h1 h2 h3 hR
  · exact checksum_be x p s0 s1 s2 s3 w h0 h1 h2 h3 hR

/-- The 32-bit word that reads at byte 4 of the 8-byte word u. -/
def half (big : Bool) (u : Int) : Int := if big then u % 4294967296 else u / 4294967296
/-- Rounded up to a multiple of 8. -/
def rnd (u : Int) : Int := (u + 7) / 8 * 8

theorem w4_put8_half (big : Bool) (x : Nat → Int) (o : Nat) (u : Int) : w4 big (put8 big x o u) (o + 4) = half big u := by
  have h4 := put8_at big x o u 4 (by omega); have h5 := put8_at big x o u 5 (by omega); have h6 := put8_at big x o u 6 (by omega); have h7 := put8_at big x o u 7 (by omega)
  unfold w4 half
  rw [show o + 4 + 1 = o + 5 by omega, show o + 4 + 2 = o + 6 by omega, show o + 4 + 3 = o + 7 by omega, h4, h5, h6, h7]
  cases big
  · show be4 (u / 72057594037927936) (u / 281474976710656 % 256) (u / 1099511627776 % 256) (u / 4294967296 % 256) = u / 4294967296
    unfold be4; omega
  · show be4 (u / 16777216 % 256) (u / 65536 % 256) (u / 256 % 256) (u % 256) = u % 4294967296
    unfold be4; omega
theorem half_in (big : Bool) (u : Int) (hu : isU64 u) : 0 ≤ half big u ∧ half big u < 4294967296 := by
  unfold isU64 at hu; unfold half; cases big <;> simp <;> omega

theorem sums_32 (big : Bool) (x : Nat → Int) (s0 s1 s2 s3 : Int) : w8 big (sums big x s0 s1 s2 s3 4) 32 = s3 := w8_put8_same _ _ _ _
theorem sums_far8 (big : Bool) (x : Nat → Int) (s0 s1 s2 s3 : Int) (o : Nat) (ho : 40 ≤ o) : w8 big (sums big x s0 s1 s2 s3 4) o = w8 big x o := by
  show w8 big (put8 big (put8 big (put8 big (put8 big x 8 s0) 16 s1) 24 s2) 32 s3) o = _
  rw [w8_put8_far _ _ _ _ _ (by omega), w8_put8_far _ _ _ _ _ (by omega), w8_put8_far _ _ _ _ _ (by omega), w8_put8_far _ _ _ _ _ (by omega)]
theorem sums_far4 (big : Bool) (x : Nat → Int) (s0 s1 s2 s3 : Int) (o : Nat) (ho : 40 ≤ o) : w4 big (sums big x s0 s1 s2 s3 4) o = w4 big x o := by
  show w4 big (put8 big (put8 big (put8 big (put8 big x 8 s0) 16 s1) 24 s2) 32 s3) o = _
  rw [w4_put8_far _ _ _ _ _ (by omega), w4_put8_far _ _ _ _ _ (by omega), w4_put8_far _ _ _ _ _ (by omega), w4_put8_far _ _ _ _ _ (by omega)]
theorem sums_50 (big : Bool) (x : Nat → Int) (s0 s1 s2 s3 : Int) : sums big x s0 s1 s2 s3 4 50 = x 50 := by
  show put8 big (put8 big (put8 big (put8 big x 8 s0) 16 s1) 24 s2) 32 s3 50 = _
  rw [put8_out _ _ _ _ _ (by omega), put8_out _ _ _ _ _ (by omega), put8_out _ _ _ _ _ (by omega), put8_out _ _ _ _ _ (by omega)]
theorem sums_36 (big : Bool) (x : Nat → Int) (s0 s1 s2 s3 : Int) : w4 big (sums big x s0 s1 s2 s3 4) 36 = half big s3 := w4_put8_half big _ 32 s3
theorem sums_28 (big : Bool) (x : Nat → Int) (s0 s1 s2 s3 : Int) : w4 big (sums big x s0 s1 s2 s3 4) 28 = half big s2 := by
  show w4 big (put8 big (put8 big (put8 big (put8 big x 8 s0) 16 s1) 24 s2) 32 s3) 28 = _
  rw [w4_put8_far _ _ _ _ _ (by omega)]
  exact w4_put8_half big _ 24 s2

theorem ofInt_toNat (a : Nat) (ha : a < 18446744073709551616) : (BitVec.ofInt 64 (a : Int)).toNat = a := by
  rw [BitVec.ofInt_natCast, BitVec.toNat_ofNat]; exact Nat.mod_eq_of_lt (by omega)
theorem and_low (u : Int) (hu : isU64 u) : bits .and .u64 u 4294967295 = u % 4294967296 := by
  unfold isU64 at hu
  obtain ⟨n, rfl⟩ : ∃ n : Nat, u = n := ⟨u.toNat, by omega⟩
  show IntKind.u64.wrap ((BitVec.ofInt 64 (n : Int) &&& BitVec.ofInt 64 ((4294967295 : Nat) : Int)).toNat : Int) = _
  rw [BitVec.toNat_and, ofInt_toNat n (by omega), ofInt_toNat _ (by omega), IntKind.wrap_u64]
  rw [show (4294967295 : Nat) = 2 ^ 32 - 1 by rfl, Nat.and_two_pow_sub_one_eq_mod]
  omega
theorem bit7 : ∀ i : Fin 64, (18446744073709551608#64)[i.val] = !decide (i.val < 3) := by decide
theorem andNot_7 (u : Int) (h0 : 0 ≤ u) (h1 : u < 4294967296) : bits .andNot .u64 (u + 7) 7 = rnd u := by
  obtain ⟨n, rfl⟩ : ∃ n : Nat, u = n := ⟨u.toNat, by omega⟩
  show IntKind.u64.wrap ((BitVec.ofInt 64 (((n + 7 : Nat)) : Int) &&& ~~~ BitVec.ofInt 64 ((7 : Nat) : Int)).toNat : Int) = _
  have e : (BitVec.ofInt 64 (((n + 7 : Nat)) : Int) &&& ~~~ BitVec.ofInt 64 ((7 : Nat) : Int)).toNat = (n + 7) / 8 * 8 := by
    have hd : ∀ v : BitVec 64, (v &&& ~~~ 7#64).toNat = v.toNat / 8 * 8 := by
      intro v
      have h : v &&& ~~~ 7#64 = (v >>> 3) <<< 3 := by
        ext i hi
        simp
        rw [show (18446744073709551608#64)[i] = !decide (i < 3) from bit7 ⟨i, hi⟩]
        by_cases h3 : i < 3
        · simp [h3]
        · simp [h3, show 3 + (i - 3) = i by omega, BitVec.getLsbD_eq_getElem hi]
      rw [h]
      simp [BitVec.toNat_shiftLeft, BitVec.toNat_ushiftRight, Nat.shiftRight_eq_div_pow, Nat.shiftLeft_eq]
      have := v.isLt
      omega
    have := hd (BitVec.ofInt 64 (((n + 7 : Nat)) : Int))
    rw [ofInt_toNat _ (by omega)] at this
    exact this
  rw [e, IntKind.wrap_u64]
  unfold rnd
  omega
end Go.Proofs.Qxb6614172aFmt.Pos
