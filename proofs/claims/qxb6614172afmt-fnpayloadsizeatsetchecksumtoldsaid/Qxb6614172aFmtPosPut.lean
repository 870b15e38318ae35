/-
  By the prover: THE WALKS of encoding/binary's PutUint32, PutUint64 in both orders, into a record.
-/
import Derived.Test.Qxb6614172aFmtPosRec
namespace Go.Proofs.Qxb6614172aFmt.Pos
open Go.RowKit Go.Deep

section
variable {big : Bool} {x : Nat → Int} {p : Nat} {w w' : World}
theorem Rec.cell (h : Rec big x p w) {i : Nat} (hi : i < 312) : w.cell? ⟨p, i, none⟩ = some (.int .u8 (x i)) := by
  have := World.rowIs.cell h (i := i) (by omega)
  rwa [if_pos hi] at this
theorem Rec.order (h : Rec big x p w) : w.cell? ⟨p, 312, none⟩ = some (ord big) := by
  have := World.rowIs.cell h (i := 312) (by omega)
  rwa [if_neg (by omega)] at this
theorem Rec.frozen (h : Rec big x p w) (i : Nat) : w.frozen? ⟨p, i, none⟩ = false := World.rowIs.frozen h i
theorem Rec.lt (h : Rec big x p w) : p < w.heap.size := World.rowIs.lt h
theorem Rec.alloc (h : Rec big x p w) (o : Obj) : Rec big x p (w.alloc o) := World.rowIs.alloc h o
theorem Rec.below (h : Rec big x p w) (hb : Below w.heap.size w w') : Rec big x p w' := World.rowIs.of_block h (hb.block _ h.lt)
theorem Rec.set (h : Rec big x p w) (i : Nat) (hi : i < 312) (v : Int) : Rec big (fun j => if j = i then v else x j) p (w.setCell ⟨p, i, none⟩ (.int .u8 v)) := by
  refine (World.rowIs.set h i _).congr fun j hj => ?_
  by_cases e : j = i
  · subst e; simp [hi]
  · simp [e]
theorem Rec.congr {y : Nat → Int} (h : Rec big x p w) (e : ∀ i, i < 312 → x i = y i) : Rec big y p w := by
  refine World.rowIs.congr h fun j hj => ?_
  by_cases h2 : j < 312
  · simp [h2, e j h2]
  · simp [h2]
end

theorem below_set {p : Nat} {w0 w : World} (h : Below p w0 w) (i : Nat) (v : Value) : Below p w0 (w.setCell ⟨p, i, none⟩ v) := h.setCell (Nat.le_refl _) v
theorem below_alloc {p : Nat} {w0 w : World} (hp : p < w0.heap.size) (h : Below p w0 w) (o : Obj) : Below p w0 (w.alloc o) := h.alloc (Nat.le_of_lt (Nat.lt_of_lt_of_le hp h.size)) o

/-- bytes 'bs' laid over x from o on. -/
def putB (x : Nat → Int) (o : Nat) (bs : List Int) (i : Nat) : Int := if o ≤ i ∧ i < o + bs.length then bs.getD (i - o) 0 else x i
theorem putB_out (x : Nat → Int) (o : Nat) (bs : List Int) (i : Nat) (h : i < o ∨ o + bs.length ≤ i) : putB x o bs i = x i := by
  unfold putB; rw [if_neg (by omega)]
theorem putB_in (x : Nat → Int) (o : Nat) (bs : List Int) (j : Nat) (h : j < bs.length) : putB x o bs (o + j) = bs.getD j 0 := by
  unfold putB; rw [if_pos (by omega), Nat.add_sub_cancel_left]

def bytes8 (u : Int) : List Int := [u / 72057594037927936, u / 281474976710656 % 256, u / 1099511627776 % 256, u / 4294967296 % 256, u / 16777216 % 256, u / 65536 % 256, u / 256 % 256, u % 256]
def bytes4 (u : Int) : List Int := [u / 16777216, u / 65536 % 256, u / 256 % 256, u % 256]
def put8 (big : Bool) (x : Nat → Int) (o : Nat) (u : Int) : Nat → Int := putB x o (if big then bytes8 u else (bytes8 u).reverse)
def put4 (big : Bool) (x : Nat → Int) (o : Nat) (u : Int) : Nat → Int := putB x o (if big then bytes4 u else (bytes4 u).reverse)

set_option maxHeartbeats 1000000 in
theorem be_put64 (big : Bool) (x : Nat → Int) (p o n c : Nat) (u : Int) (w : World) (hn : 8 ≤ n) (ho : o + 8 ≤ 312) (hu0 : 0 ≤ u) (hu1 : u < 18446744073709551616) (hR : Rec big x p w) :
    Calls Tryf.prog 36 #[.agg #[], .slice (some ⟨p, o, none⟩) n c, .int .u64 u] w fun e w' => e = .returned (.tuple #[]) ∧ Rec big (put8 true x o u) p w' ∧ Below p w w' := by
  have hp : p < w.heap.size := World.rowIs.lt hR
  have c0 := hR.cell (i := o) (by omega)
  have c1 := hR.cell (i := o + 1) (by omega)
  have c2 := hR.cell (i := o + 2) (by omega)
  have c3 := hR.cell (i := o + 3) (by omega)
  have c4 := hR.cell (i := o + 4) (by omega)
  have c5 := hR.cell (i := o + 5) (by omega)
  have c6 := hR.cell (i := o + 6) (by omega)
  have c7 := hR.cell (i := o + 7) (by omega)
  have f0 := hR.frozen o
  have f1 := hR.frozen (o + 1)
  have f2 := hR.frozen (o + 2)
  have f3 := hR.frozen (o + 3)
  have f4 := hR.frozen (o + 4)
  have f5 := hR.frozen (o + 5)
  have f6 := hR.frozen (o + 6)
  have f7 := hR.frozen (o + 7)
  have q0 : 0 < n := by omega
  have q1 : (1 : Int) < (n : Int) := by omega
  have q2 : (2 : Int) < (n : Int) := by omega
  have q3 : (3 : Int) < (n : Int) := by omega
  have q4 : (4 : Int) < (n : Int) := by omega
  have q5 : (5 : Int) < (n : Int) := by omega
  have q6 : (6 : Int) < (n : Int) := by omega
  have q7 : (7 : Int) < (n : Int) := by omega
  have HR := hide hR
  clear hR
  go_enter Tryf.func36, Tryf.ntmps36
  go_wp2
  go_end0
  refine ⟨rfl, Rec.alloc (((((((((HR.out.set (o) (by omega) (u / 72057594037927936)).set (o + 1) (by omega) (u / 281474976710656 % 256)).set (o + 2) (by omega) (u / 1099511627776 % 256)).set (o + 3) (by omega) (u / 4294967296 % 256)).set (o + 4) (by omega) (u / 16777216 % 256)).set (o + 5) (by omega) (u / 65536 % 256)).set (o + 6) (by omega) (u / 256 % 256)).set (o + 7) (by omega) (u % 256)).congr fun i hi => ?_) _, ?bel⟩
  case bel =>
    refine below_alloc hp ?_ _
    iterate 8 refine below_set ?_ _ _
    exact Below.refl _ _
  by_cases h : o ≤ i ∧ i < o + 8
  · obtain ⟨j, rfl⟩ : ∃ j, i = o + j := ⟨i - o, by omega⟩
    unfold put8
    rw [putB_in _ _ _ _ (by simp [bytes8]; omega)]
    have hj : j < 8 := by omega

    match j, hj with
    | 0, _ => simp [bytes8]
    | 1, _ => simp [bytes8]
    | 2, _ => simp [bytes8]
    | 3, _ => simp [bytes8]
    | 4, _ => simp [bytes8]
    | 5, _ => simp [bytes8]
    | 6, _ => simp [bytes8]
    | 7, _ => simp [bytes8]
  · unfold put8
    rw [putB_out _ _ _ _ (by simp [bytes8]; omega)]
    simp [show i ≠ o by omega, show i ≠ o + 1 by omega, show i ≠ o + 2 by omega, show i ≠ o + 3 by omega, show i ≠ o + 4 by omega, show i ≠ o + 5 by omega, show i ≠ o + 6 by omega, show i ≠ o + 7 by omega]

set_option maxHeartbeats 1000000 in
theorem le_put64 (big : Bool) (x : Nat → Int) (p o n c : Nat) (u : Int) (w : World) (hn : 8 ≤ n) (ho : o + 8 ≤ 312) (hu0 : 0 ≤ u) (hu1 : u < 18446744073709551616) (hR : Rec big x p w) :
    Calls Tryf.prog 44 #[.agg #[], .slice (some ⟨p, o, none⟩) n c, .int .u64 u] w fun e w' => e = .returned (.tuple #[]) ∧ Rec big (put8 false x o u) p w' ∧ Below p w w' := by
  have hp : p < w.heap.size := World.rowIs.lt hR
  have c0 := hR.cell (i := o) (by omega)
  have c1 := hR.cell (i := o + 1) (by omega)
  have c2 := hR.cell (i := o + 2) (by omega)
  have c3 := hR.cell (i := o + 3) (by omega)
  have c4 := hR.cell (i := o + 4) (by omega)
  have c5 := hR.cell (i := o + 5) (by omega)
  have c6 := hR.cell (i := o + 6) (by omega)
  have c7 := hR.cell (i := o + 7) (by omega)
  have f0 := hR.frozen o
  have f1 := hR.frozen (o + 1)
  have f2 := hR.frozen (o + 2)
  have f3 := hR.frozen (o + 3)
  have f4 := hR.frozen (o + 4)
  have f5 := hR.frozen (o + 5)
  have f6 := hR.frozen (o + 6)
  have f7 := hR.frozen (o + 7)
  have q0 : 0 < n := by omega
  have q1 : (1 : Int) < (n : Int) := by omega
  have q2 : (2 : Int) < (n : Int) := by omega
  have q3 : (3 : Int) < (n : Int) := by omega
  have q4 : (4 : Int) < (n : Int) := by omega
  have q5 : (5 : Int) < (n : Int) := by omega
  have q6 : (6 : Int) < (n : Int) := by omega
  have q7 : (7 : Int) < (n : Int) := by omega
  have HR := hide hR
  clear hR
  go_enter Tryf.func44, Tryf.ntmps44
  go_wp2
  go_end0
  refine ⟨rfl, Rec.alloc (((((((((HR.out.set (o) (by omega) (u % 256)).set (o + 1) (by omega) (u / 256 % 256)).set (o + 2) (by omega) (u / 65536 % 256)).set (o + 3) (by omega) (u / 16777216 % 256)).set (o + 4) (by omega) (u / 4294967296 % 256)).set (o + 5) (by omega) (u / 1099511627776 % 256)).set (o + 6) (by omega) (u / 281474976710656 % 256)).set (o + 7) (by omega) (u / 72057594037927936)).congr fun i hi => ?_) _, ?bel⟩
  case bel =>
    refine below_alloc hp ?_ _
    iterate 8 refine below_set ?_ _ _
    exact Below.refl _ _
  by_cases h : o ≤ i ∧ i < o + 8
  · obtain ⟨j, rfl⟩ : ∃ j, i = o + j := ⟨i - o, by omega⟩
    unfold put8
    rw [putB_in _ _ _ _ (by simp [bytes8]; omega)]
    have hj : j < 8 := by omega

    match j, hj with
    | 0, _ => simp [bytes8]
    | 1, _ => simp [bytes8]
    | 2, _ => simp [bytes8]
    | 3, _ => simp [bytes8]
    | 4, _ => simp [bytes8]
    | 5, _ => simp [bytes8]
    | 6, _ => simp [bytes8]
    | 7, _ => simp [bytes8]
  · unfold put8
    rw [putB_out _ _ _ _ (by simp [bytes8]; omega)]
    simp [show i ≠ o by omega, show i ≠ o + 1 by omega, show i ≠ o + 2 by omega, show i ≠ o + 3 by omega, show i ≠ o + 4 by omega, show i ≠ o + 5 by omega, show i ≠ o + 6 by omega, show i ≠ o + 7 by omega]

end Go.Proofs.Qxb6614172aFmt.Pos
