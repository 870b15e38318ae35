/-
  By the prover: THE WALKS of (*Record).u32, u64: a word of the record in its own order.
-/
import Derived.Test.Qxb6614172aFmtPosBytes
import Derived.Test.Qxb6614172aFmtPosPut
import Derived.Deep.RegionHeld3
namespace Go.Proofs.Qxb6614172aFmt.Pos
open Go.RowKit Go.Deep

/-- The word of eight (four) bytes at o. -/
def w8 (big : Bool) (x : Nat → Int) (o : Nat) : Int := if big then be8 (x o) (x (o + 1)) (x (o + 2)) (x (o + 3)) (x (o + 4)) (x (o + 5)) (x (o + 6)) (x (o + 7)) else be8 (x (o + 7)) (x (o + 6)) (x (o + 5)) (x (o + 4)) (x (o + 3)) (x (o + 2)) (x (o + 1)) (x o)
def w4 (big : Bool) (x : Nat → Int) (o : Nat) : Int := if big then be4 (x o) (x (o + 1)) (x (o + 2)) (x (o + 3)) else be4 (x (o + 3)) (x (o + 2)) (x (o + 1)) (x o)

theorem of_drew {w w1 : World} (h : Below w.drew.heap.size w.drew w1) : Below w.heap.size w w1 := ((Below.refl _ _).drew).trans h
theorem Rec.drew {big : Bool} {x : Nat → Int} {p : Nat} {w : World} (h : Rec big x p w) : Rec big x p w.drew := h

theorem m53_u64 (w : World) : (method 178 47 (.agg #[]) "Uint64").run Tryf.prog w = .ok (40, .agg #[]) w := by kernel_rfl
theorem m54_u64 (w : World) : (method 178 48 (.agg #[]) "Uint64").run Tryf.prog w = .ok (48, .agg #[]) w := by kernel_rfl
theorem m53_u32 (w : World) : (method 178 47 (.agg #[]) "Uint32").run Tryf.prog w = .ok (39, .agg #[]) w := by kernel_rfl
theorem m54_u32 (w : World) : (method 178 48 (.agg #[]) "Uint32").run Tryf.prog w = .ok (47, .agg #[]) w := by kernel_rfl
theorem m53_p64 (w : World) : (method 178 47 (.agg #[]) "PutUint64").run Tryf.prog w = .ok (36, .agg #[]) w := by kernel_rfl
theorem m54_p64 (w : World) : (method 178 48 (.agg #[]) "PutUint64").run Tryf.prog w = .ok (44, .agg #[]) w := by kernel_rfl

theorem be4_in (a b c d : Int) (h0 : isByte a) (h1 : isByte b) (h2 : isByte c) (h3 : isByte d) : 0 ≤ be4 a b c d ∧ be4 a b c d < 4294967296 := by
  unfold isByte at *; unfold be4; omega
theorem w4_in (big : Bool) (x : Nat → Int) (o : Nat) (hx : ∀ i, isByte (x i)) : 0 ≤ w4 big x o ∧ w4 big x o < 4294967296 := by
  cases big
  · exact be4_in _ _ _ _ (hx _) (hx _) (hx _) (hx _)
  · exact be4_in _ _ _ _ (hx _) (hx _) (hx _) (hx _)

theorem be8_rec (x : Nat → Int) (p o n c : Nat) (w : World) (hn : 8 ≤ n) (ho : o + 8 ≤ 312) (hx : ∀ i, isByte (x i)) (hR : Rec true x p w) :
    Calls Tryf.prog 40 #[.agg #[], .slice (some ⟨p, o, none⟩) n c] w fun e w' => e = .returned (.int .u64 (w8 true x o)) ∧ Below w.heap.size w w' :=
  be_uint64 p o n c _ _ _ _ _ _ _ _ w hn (hR.cell (by omega)) (hR.cell (by omega)) (hR.cell (by omega)) (hR.cell (by omega)) (hR.cell (by omega)) (hR.cell (by omega)) (hR.cell (by omega)) (hR.cell (by omega)) (hx _) (hx _) (hx _) (hx _) (hx _) (hx _) (hx _) (hx _)

set_option maxHeartbeats 400000 in
theorem u64_be (x : Nat → Int) (p o : Nat) (w : World) (ho : o + 8 ≤ 312) (hx : ∀ i, isByte (x i)) (hR : Rec true x p w) :
    Calls Tryf.prog 14 #[.pointer (some ⟨p, 0, none⟩), .int .i64 o] w fun e w' => e = .returned (.int .u64 (w8 true x o)) ∧ Below w.heap.size w w' := by
  have hp := hR.lt
  have hord : w.cell? ⟨p, 312, none⟩ = some (.iface 47 (.agg #[])) := hR.order
  have i0 : (0 : Int) ≤ (o : Int) := by omega
  have i1 : (o : Int) ≤ 312 := by omega
  have i2 : ¬ 312 = o := by omega
  have hm := m53_u64
  skip
  have HR := hide hR
  have HX := hide hx
  clear hR hx
  go_enter Tryf.func14, Tryf.ntmps14
  go_wp2
  go_region_held3 (fun w' => w'.cell? ⟨p, 312, none⟩ = some (.iface 47 (.agg #[]))) (first | go_keep | exact cell_later hb1 (by assumption)) ((go_at_call 40; refine (be8_rec x p o (312 - o) (312 - o) w.drew (by omega) ho HX.out HR.out.drew).mono ?_; rintro e w1 ⟨rfl, hb1⟩))
  go_wp2
  go_ret
  exact ⟨rfl, of_drew hb1⟩

theorem le8_rec (x : Nat → Int) (p o n c : Nat) (w : World) (hn : 8 ≤ n) (ho : o + 8 ≤ 312) (hx : ∀ i, isByte (x i)) (hR : Rec false x p w) :
    Calls Tryf.prog 48 #[.agg #[], .slice (some ⟨p, o, none⟩) n c] w fun e w' => e = .returned (.int .u64 (w8 false x o)) ∧ Below w.heap.size w w' :=
  le_uint64 p o n c _ _ _ _ _ _ _ _ w hn (hR.cell (by omega)) (hR.cell (by omega)) (hR.cell (by omega)) (hR.cell (by omega)) (hR.cell (by omega)) (hR.cell (by omega)) (hR.cell (by omega)) (hR.cell (by omega)) (hx _) (hx _) (hx _) (hx _) (hx _) (hx _) (hx _) (hx _)

set_option maxHeartbeats 400000 in
theorem u64_le (x : Nat → Int) (p o : Nat) (w : World) (ho : o + 8 ≤ 312) (hx : ∀ i, isByte (x i)) (hR : Rec false x p w) :
    Calls Tryf.prog 14 #[.pointer (some ⟨p, 0, none⟩), .int .i64 o] w fun e w' => e = .returned (.int .u64 (w8 false x o)) ∧ Below w.heap.size w w' := by
  have hp := hR.lt
  have hord : w.cell? ⟨p, 312, none⟩ = some (.iface 48 (.agg #[])) := hR.order
  have i0 : (0 : Int) ≤ (o : Int) := by omega
  have i1 : (o : Int) ≤ 312 := by omega
  have i2 : ¬ 312 = o := by omega
  have hm := m54_u64
  skip
  have HR := hide hR
  have HX := hide hx
  clear hR hx
  go_enter Tryf.func14, Tryf.ntmps14
  go_wp2
  go_region_held3 (fun w' => w'.cell? ⟨p, 312, none⟩ = some (.iface 48 (.agg #[]))) (first | go_keep | exact cell_later hb1 (by assumption)) ((go_at_call 48; refine (le8_rec x p o (312 - o) (312 - o) w.drew (by omega) ho HX.out HR.out.drew).mono ?_; rintro e w1 ⟨rfl, hb1⟩))
  go_wp2
  go_ret
  exact ⟨rfl, of_drew hb1⟩

theorem be4_rec (x : Nat → Int) (p o n c : Nat) (w : World) (hn : 4 ≤ n) (ho : o + 4 ≤ 312) (hx : ∀ i, isByte (x i)) (hR : Rec true x p w) :
    Calls Tryf.prog 39 #[.agg #[], .slice (some ⟨p, o, none⟩) n c] w fun e w' => e = .returned (.int .u32 (w4 true x o)) ∧ Below w.heap.size w w' :=
  be_uint32 p o n c _ _ _ _ w hn (hR.cell (by omega)) (hR.cell (by omega)) (hR.cell (by omega)) (hR.cell (by omega)) (hx _) (hx _) (hx _) (hx _)

set_option maxHeartbeats 400000 in
theorem u32_be (x : Nat → Int) (p o : Nat) (w : World) (ho : o + 4 ≤ 312) (hx : ∀ i, isByte (x i)) (hR : Rec true x p w) :
    Calls Tryf.prog 12 #[.pointer (some ⟨p, 0, none⟩), .int .i64 o] w fun e w' => e = .returned (.int .u64 (w4 true x o)) ∧ Below w.heap.size w w' := by
  have hp := hR.lt
  have hord : w.cell? ⟨p, 312, none⟩ = some (.iface 47 (.agg #[])) := hR.order
  have i0 : (0 : Int) ≤ (o : Int) := by omega
  have i1 : (o : Int) ≤ 312 := by omega
  have i2 : ¬ 312 = o := by omega
  have hm := m53_u32
  have hwr : IntKind.u64.wrap (w4 true x o) = w4 true x o := by have := w4_in true x o hx; rw [IntKind.wrap_u64]; omega
  have HR := hide hR
  have HX := hide hx
  clear hR hx
  go_enter Tryf.func12, Tryf.ntmps12
  go_wp2
  go_region_held3 (fun w' => w'.cell? ⟨p, 312, none⟩ = some (.iface 47 (.agg #[]))) (first | go_keep | exact cell_later hb1 (by assumption)) ((go_at_call 39; refine (be4_rec x p o (312 - o) (312 - o) w.drew (by omega) ho HX.out HR.out.drew).mono ?_; rintro e w1 ⟨rfl, hb1⟩))
  go_wp2
  go_ret
  exact ⟨rfl, of_drew hb1⟩

theorem le4_rec (x : Nat → Int) (p o n c : Nat) (w : World) (hn : 4 ≤ n) (ho : o + 4 ≤ 312) (hx : ∀ i, isByte (x i)) (hR : Rec false x p w) :
    Calls Tryf.prog 47 #[.agg #[], .slice (some ⟨p, o, none⟩) n c] w fun e w' => e = .returned (.int .u32 (w4 false x o)) ∧ Below w.heap.size w w' :=
  le_uint32 p o n c _ _ _ _ w hn (hR.cell (by omega)) (hR.cell (by omega)) (hR.cell (by omega)) (hR.cell (by omega)) (hx _) (hx _) (hx _) (hx _)

set_option maxHeartbeats 400000 in
theorem u32_le (x : Nat → Int) (p o : Nat) (w : World) (ho : o + 4 ≤ 312) (hx : ∀ i, isByte (x i)) (hR : Rec false x p w) :
    Calls Tryf.prog 12 #[.pointer (some ⟨p, 0, none⟩), .int .i64 o] w fun e w' => e = .returned (.int .u64 (w4 false x o)) ∧ Below w.heap.size w w' := by
  have hp := hR.lt
  have hord : w.cell? ⟨p, 312, none⟩ = some (.iface 48 (.agg #[])) := hR.order
  have i0 : (0 : Int) ≤ (o : Int) := by omega
  have i1 : (o : Int) ≤ 312 := by omega
  have i2 : ¬ 312 = o := by omega
  have hm := m54_u32
  have hwr : IntKind.u64.wrap (w4 false x o) = w4 false x o := by have := w4_in false x o hx; rw [IntKind.wrap_u64]; omega
  have HR := hide hR
  have HX := hide hx
  clear hR hx
  go_enter Tryf.func12, Tryf.ntmps12
  go_wp2
  go_region_held3 (fun w' => w'.cell? ⟨p, 312, none⟩ = some (.iface 48 (.agg #[]))) (first | go_keep | exact cell_later hb1 (by assumption)) ((go_at_call 47; refine (le4_rec x p o (312 - o) (312 - o) w.drew (by omega) ho HX.out HR.out.drew).mono ?_; rintro e w1 ⟨rfl, hb1⟩))
  go_wp2
  go_ret
  exact ⟨rfl, of_drew hb1⟩

theorem u64_any (big : Bool) (x : Nat → Int) (p o : Nat) (w : World) (ho : o + 8 ≤ 312) (hx : ∀ i, isByte (x i)) (hR : Rec big x p w) :
    Calls Tryf.prog 14 #[.pointer (some ⟨p, 0, none⟩), .int .i64 o] w fun e w' => e = .returned (.int .u64 (w8 big x o)) ∧ Below w.heap.size w w' := by
  cases big
  · exact u64_le x p o w ho hx hR
  · exact u64_be x p o w ho hx hR
theorem u32_any (big : Bool) (x : Nat → Int) (p o : Nat) (w : World) (ho : o + 4 ≤ 312) (hx : ∀ i, isByte (x i)) (hR : Rec big x p w) :
    Calls Tryf.prog 12 #[.pointer (some ⟨p, 0, none⟩), .int .i64 o] w fun e w' => e = .returned (.int .u64 (w4 big x o)) ∧ Below w.heap.size w w' := by
  cases big
  · exact u32_le x p o w ho hx hR
  · exact u32_be x p o w ho hx hR
end Go.Proofs.Qxb6614172aFmt.Pos
