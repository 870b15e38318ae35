/-
  By the prover: THE PLAIN LAW: words of a row of bytes behind a word that was laid into it.
-/
import Derived.Test.Qxb6614172aPosSet
import Derived.Test.Qxb6614172aPosPosition
namespace Go.Proofs.Qxb6614172a.Pos

theorem len8 (big : Bool) (u : Int) : (if big = true then bytes8 u else (bytes8 u).reverse).length = 8 := by cases big <;> rfl
theorem len4 (big : Bool) (u : Int) : (if big = true then bytes4 u else (bytes4 u).reverse).length = 4 := by cases big <;> rfl

theorem put8_out (big : Bool) (x : Nat → Int) (o : Nat) (u : Int) (i : Nat) (h : i < o ∨ o + 8 ≤ i) : put8 big x o u i = x i := by
  unfold put8; exact putB_out _ _ _ _ (by rw [len8]; exact h)
theorem put4_out (big : Bool) (x : Nat → Int) (o : Nat) (u : Int) (i : Nat) (h : i < o ∨ o + 4 ≤ i) : put4 big x o u i = x i := by
  unfold put4; exact putB_out _ _ _ _ (by rw [len4]; exact h)
theorem put8_at (big : Bool) (x : Nat → Int) (o : Nat) (u : Int) (j : Nat) (h : j < 8) : put8 big x o u (o + j) = (if big = true then bytes8 u else (bytes8 u).reverse).getD j 0 := by
  unfold put8; exact putB_in _ _ _ _ (by rw [len8]; exact h)
theorem put4_at (big : Bool) (x : Nat → Int) (o : Nat) (u : Int) (j : Nat) (h : j < 4) : put4 big x o u (o + j) = (if big = true then bytes4 u else (bytes4 u).reverse).getD j 0 := by
  unfold put4; exact putB_in _ _ _ _ (by rw [len4]; exact h)

theorem bytes8_byte (u : Int) (hu : isU64 u) : ∀ b ∈ bytes8 u, isByte b := by
  unfold isU64 at hu
  intro b hb
  simp only [bytes8, List.mem_cons, List.not_mem_nil, or_false] at hb
  unfold isByte
  rcases hb with h | h | h | h | h | h | h | h <;> omega
theorem bytes4_byte (u : Int) (h0 : 0 ≤ u) (h1 : u < 4294967296) : ∀ b ∈ bytes4 u, isByte b := by
  intro b hb
  simp only [bytes4, List.mem_cons, List.not_mem_nil, or_false] at hb
  unfold isByte
  rcases hb with h | h | h | h <;> omega

theorem byte_putB (x : Nat → Int) (o : Nat) (bs : List Int) (hx : ∀ i, isByte (x i)) (hb : ∀ b ∈ bs, isByte b) (i : Nat) : isByte (putB x o bs i) := by
  unfold putB
  split
  · rename_i h
    rw [List.getD_eq_getElem?_getD, List.getElem?_eq_getElem (by omega)]
    exact hb _ (List.getElem_mem _)
  · exact hx i
theorem byte_put8 (big : Bool) (x : Nat → Int) (o : Nat) (u : Int) (hx : ∀ i, isByte (x i)) (hu : isU64 u) (i : Nat) : isByte (put8 big x o u i) := by
  unfold put8
  refine byte_putB x o _ hx ?_ i
  intro b hb
  refine bytes8_byte u hu b ?_
  cases big
  · simpa using hb
  · simpa using hb
theorem byte_put4 (big : Bool) (x : Nat → Int) (o : Nat) (u : Int) (hx : ∀ i, isByte (x i)) (h0 : 0 ≤ u) (h1 : u < 4294967296) (i : Nat) : isByte (put4 big x o u i) := by
  unfold put4
  refine byte_putB x o _ hx ?_ i
  intro b hb
  refine bytes4_byte u h0 h1 b ?_
  cases big
  · simpa using hb
  · simpa using hb

theorem w8_congr (big : Bool) (x y : Nat → Int) (o : Nat) (h : ∀ j, j < 8 → x (o + j) = y (o + j)) : w8 big x o = w8 big y o := by
  have h0 := h 0 (by omega); have h1 := h 1 (by omega); have h2 := h 2 (by omega); have h3 := h 3 (by omega)
  have h4 := h 4 (by omega); have h5 := h 5 (by omega); have h6 := h 6 (by omega); have h7 := h 7 (by omega)
  rw [Nat.add_zero] at h0
  unfold w8
  rw [h0, h1, h2, h3, h4, h5, h6, h7]
theorem w4_congr (big : Bool) (x y : Nat → Int) (o : Nat) (h : ∀ j, j < 4 → x (o + j) = y (o + j)) : w4 big x o = w4 big y o := by
  have h0 := h 0 (by omega); have h1 := h 1 (by omega); have h2 := h 2 (by omega); have h3 := h 3 (by omega)
  rw [Nat.add_zero] at h0
  unfold w4
  rw [h0, h1, h2, h3]

theorem w8_put8_far (big : Bool) (x : Nat → Int) (o o' : Nat) (u : Int) (h : o' + 8 ≤ o ∨ o + 8 ≤ o') : w8 big (put8 big x o u) o' = w8 big x o' :=
  w8_congr big _ _ o' fun j hj => put8_out big x o u _ (by omega)
theorem w4_put8_far (big : Bool) (x : Nat → Int) (o o' : Nat) (u : Int) (h : o' + 4 ≤ o ∨ o + 8 ≤ o') : w4 big (put8 big x o u) o' = w4 big x o' :=
  w4_congr big _ _ o' fun j hj => put8_out big x o u _ (by omega)
theorem w8_put4_far (big : Bool) (x : Nat → Int) (o o' : Nat) (u : Int) (h : o' + 8 ≤ o ∨ o + 4 ≤ o') : w8 big (put4 big x o u) o' = w8 big x o' :=
  w8_congr big _ _ o' fun j hj => put4_out big x o u _ (by omega)
theorem w4_put4_far (big : Bool) (x : Nat → Int) (o o' : Nat) (u : Int) (h : o' + 4 ≤ o ∨ o + 4 ≤ o') : w4 big (put4 big x o u) o' = w4 big x o' :=
  w4_congr big _ _ o' fun j hj => put4_out big x o u _ (by omega)

theorem be8_bytes (u : Int) : be8 (u / 72057594037927936) (u / 281474976710656 % 256) (u / 1099511627776 % 256) (u / 4294967296 % 256) (u / 16777216 % 256) (u / 65536 % 256) (u / 256 % 256) (u % 256) = u := by
  unfold be8; omega
theorem w8_put8_same (big : Bool) (x : Nat → Int) (o : Nat) (u : Int) : w8 big (put8 big x o u) o = u := by
  have h0 := put8_at big x o u 0 (by omega); have h1 := put8_at big x o u 1 (by omega); have h2 := put8_at big x o u 2 (by omega); have h3 := put8_at big x o u 3 (by omega)
  have h4 := put8_at big x o u 4 (by omega); have h5 := put8_at big x o u 5 (by omega); have h6 := put8_at big x o u 6 (by omega); have h7 := put8_at big x o u 7 (by omega)
  rw [Nat.add_zero] at h0
  unfold w8
  rw [h0, h1, h2, h3, h4, h5, h6, h7]
  cases big
  · exact be8_bytes u
  · exact be8_bytes u

/-- What Position reads behind SetChecksum. -/
theorem sums_byte (big : Bool) (x : Nat → Int) (s0 s1 s2 s3 : Int) (hx : ∀ i, isByte (x i)) (h0 : isU64 s0) (h1 : isU64 s1) (h2 : isU64 s2) (h3 : isU64 s3) (i : Nat) : isByte (sums big x s0 s1 s2 s3 4 i) :=
  byte_put8 _ _ _ _ (fun i => byte_put8 _ _ _ _ (fun i => byte_put8 _ _ _ _ (fun i => byte_put8 _ _ _ _ hx h0 i) h1 i) h2 i) h3 i
theorem sums_type (big : Bool) (x : Nat → Int) (s0 s1 s2 s3 : Int) : w4 big (sums big x s0 s1 s2 s3 4) 0 = w4 big x 0 := by
  show w4 big (put8 big (put8 big (put8 big (put8 big x 8 s0) 16 s1) 24 s2) 32 s3) 0 = _
  rw [w4_put8_far _ _ _ _ _ (by omega), w4_put8_far _ _ _ _ _ (by omega), w4_put8_far _ _ _ _ _ (by omega), w4_put8_far _ _ _ _ _ (by omega)]
theorem sums_8 (big : Bool) (x : Nat → Int) (s0 s1 s2 s3 : Int) : w8 big (sums big x s0 s1 s2 s3 4) 8 = s0 := by
  show w8 big (put8 big (put8 big (put8 big (put8 big x 8 s0) 16 s1) 24 s2) 32 s3) 8 = _
  rw [w8_put8_far _ _ _ _ _ (by omega), w8_put8_far _ _ _ _ _ (by omega), w8_put8_far _ _ _ _ _ (by omega), w8_put8_same]
theorem sums_16 (big : Bool) (x : Nat → Int) (s0 s1 s2 s3 : Int) : w8 big (sums big x s0 s1 s2 s3 4) 16 = s1 := by
  show w8 big (put8 big (put8 big (put8 big (put8 big x 8 s0) 16 s1) 24 s2) 32 s3) 16 = _
  rw [w8_put8_far _ _ _ _ _ (by omega), w8_put8_far _ _ _ _ _ (by omega), w8_put8_same]
theorem sums_24 (big : Bool) (x : Nat → Int) (s0 s1 s2 s3 : Int) : w8 big (sums big x s0 s1 s2 s3 4) 24 = s2 := by
  show w8 big (put8 big (put8 big (put8 big (put8 big x 8 s0) 16 s1) 24 s2) 32 s3) 24 = _
  rw [w8_put8_far _ _ _ _ _ (by omega), w8_put8_same]
theorem sums_posO (big : Bool) (x : Nat → Int) (s0 s1 s2 s3 : Int) : posO big (sums big x s0 s1 s2 s3 4) = if cls (w4 big x 0) = 0 then 0 else s0 := by
  unfold posO; rw [sums_type, sums_8]
theorem sums_posF (big : Bool) (x : Nat → Int) (s0 s1 s2 s3 : Int) : posF big (sums big x s0 s1 s2 s3 4) = if cls (w4 big x 0) = 1 then s2 else if cls (w4 big x 0) = 2 then s1 else 0 := by
  unfold posF; rw [sums_type, sums_16, sums_24]
theorem cls_cases (t : Int) : cls t = 1 ∨ cls t = 2 ∨ cls t = 3 ∨ cls t = 0 := by
  unfold cls; repeat' split
  all_goals simp

theorem checksum_any (big : Bool) (x : Nat → Int) (p : Nat) (s0 s1 s2 s3 : Int) (w : World) (h0 : isU64 s0) (h1 : isU64 s1) (h2 : isU64 s2) (h3 : isU64 s3) (hR : Rec big x p w) :
    Calls Try.prog 11 #[.pointer (some ⟨p, 0, none⟩), .agg #[.int .u64 s0, .int .u64 s1, .int .u64 s2, .int .u64 s3]] w fun e w' => e = .returned (.tuple #[]) ∧ Rec big (sums big x s0 s1 s2 s3 4) p w' ∧ RowKit.Below p w w' := by
  cases big
  · exact checksum_le x p s0 s1 s2 s3 w h0 h1 h2 h3 hR
  · exact checksum_be x p s0 s1 s2 s3 w h0 h1 h2 h3 hR
end Go.Proofs.Qxb6614172a.Pos
