/-
  By the prover: THE ORDER OF NAMES, with no Go in sight: strings.Compare's order; the one ascending list of n names that differ.
-/
import Derived.Lib.Bytealg
import Derived.Sort.Statements
import Derived.Sort.KeysCollected
import Derived.Shelf.SlSortCmp.Kit1
namespace Go.Proofs.Qxb6613654aFmt.Defs
open Go.Lib Go.Sort Go.Shelf

theorem compareBytes_lt : ∀ a b : List UInt8, compareBytes a b < 0 ↔ a < b
  | [], [] => by simp [compareBytes]
  | [], b :: bs => by simp [compareBytes]
  | a :: xs, [] => by simp [compareBytes]
  | a :: xs, b :: bs => by
    rw [List.cons_lt_cons_iff]
    unfold compareBytes
    by_cases h1 : a < b
    · simp [h1]
    · by_cases h2 : b < a
      · have : a ≠ b := fun e => by subst e; exact h1 h2
        simp [h1, h2, this]
      · have e : a = b := UInt8.le_antisymm (UInt8.not_lt.1 h2) (UInt8.not_lt.1 h1)
        subst e
        simp [compareBytes_lt xs bs]

section
variable {n : Nat} (N : Fin n → List UInt8)

/-- What the closure says of two. -/
def cf (x y : Fin n) : Int := compareBytes (N x) (N y)
theorem lt_cf (x y : Fin n) : ltOf (cf N) x y = decide (N x < N y) := by
  unfold ltOf cf
  simp [compareBytes_lt]

theorem swo : SWO (ltOf (cf N)) where
  irrefl x := by rw [lt_cf]; simp [List.lt_irrefl]
  trans x y z h1 h2 := by
    rw [lt_cf] at *
    simp at *
    exact List.lt_trans h1 h2
  ntrans x y z h1 h2 := by
    rw [lt_cf] at *
    simp at *
    exact List.le_trans h2 h1

theorem parts (hN : ∀ x y, N x = N y → x = y) (x y : Fin n) (h1 : ltOf (cf N) x y = false) (h2 : ltOf (cf N) y x = false) : x = y := by
  rw [lt_cf] at *
  simp at *
  exact hN x y (List.le_antisymm h2 h1)

/-- The n in the order of their names. -/
def ord : List (Fin n) := (List.finRange n).mergeSort fun x y => !(ltOf (cf N)) y x

theorem ord_perm : (ord N).Perm (List.finRange n) := List.mergeSort_perm _ _
theorem ord_length : (ord N).length = n := by rw [(ord_perm N).length_eq]; simp

theorem ord_le : (ord N).Pairwise fun x y => N x ≤ N y := by
  have tr : ∀ a b c : Fin n, (!(ltOf (cf N)) b a) = true → (!(ltOf (cf N)) c b) = true → (!(ltOf (cf N)) c a) = true := fun a b c h1 h2 => by
    rw [lt_cf] at *
    simp at *
    exact List.le_trans h1 h2
  have to : ∀ a b : Fin n, ((!(ltOf (cf N)) b a) || (!(ltOf (cf N)) a b)) = true := fun a b => by
    rw [lt_cf, lt_cf]
    simp
    exact List.le_total _ _
  refine (List.pairwise_mergeSort (le := fun x y => !(ltOf (cf N)) y x) tr to (List.finRange n)).imp ?_
  intro a b h
  rw [lt_cf] at h
  simpa using h

theorem ord_of_perm (hN : ∀ x y, N x = N y → x = y) {l : List (Fin n)} (h : l.Perm (List.finRange n)) : (l.mergeSort fun x y => !(ltOf (cf N)) y x) = ord N := by
  have tr : ∀ a b c : Fin n, (!(ltOf (cf N)) b a) = true → (!(ltOf (cf N)) c b) = true → (!(ltOf (cf N)) c a) = true := fun a b c h1 h2 => by
    rw [lt_cf] at *
    simp at *
    exact List.le_trans h1 h2
  have to : ∀ a b : Fin n, ((!(ltOf (cf N)) b a) || (!(ltOf (cf N)) a b)) = true := fun a b => by
    rw [lt_cf, lt_cf]
    simp
    exact List.le_total _ _
  refine List.Perm.eq_of_pairwise (le := fun a b => (!(ltOf (cf N)) b a) = true) (fun a b _ _ h1 h2 => ?_) (List.pairwise_mergeSort (le := fun x y => !(ltOf (cf N)) y x) tr to l) (List.pairwise_mergeSort (le := fun x y => !(ltOf (cf N)) y x) tr to _) (((List.mergeSort_perm l _).trans h).trans (List.mergeSort_perm _ _).symm)
  simp only [Bool.not_eq_true'] at h1 h2
  exact parts N hN a b h2 h1

/-- Ascending, and strictly, where the names differ. -/
theorem ord_lt (hN : ∀ x y, N x = N y → x = y) (i j : Nat) (hij : i < j) (hj : j < (ord N).length) : N ((ord N)[i]'(by omega)) < N ((ord N)[j]) := by
  have h1 := List.pairwise_iff_getElem.1 (ord_le N) i j (by omega) hj hij
  have hnd : (ord N).Nodup := (ord_perm N).nodup_iff.2 (List.nodup_finRange n)
  have h2 : (ord N)[i]'(by omega) ≠ (ord N)[j] := List.pairwise_iff_getElem.1 hnd i j (by omega) hj hij
  by_cases h : N ((ord N)[i]'(by omega)) < N ((ord N)[j])
  · exact h
  · exact absurd (hN _ _ (List.le_antisymm h1 h)) h2
end
end Go.Proofs.Qxb6613654aFmt.Defs
