/-
  By the prover: THE WALK of (*Record).Position.
-/
import Derived.Test.Qxb6614172aPosWord
import Derived.Test.Qxb6614172aPosZz
namespace Go.Proofs.Qxb6614172a.Pos
open Go.RowKit Go.Deep

/-- The object and the offset that Position answers, by the record's class. -/
def posO (big : Bool) (x : Nat → Int) : Int := if cls (w4 big x 0) = 0 then 0 else w8 big x 8
def posF (big : Bool) (x : Nat → Int) : Int := if cls (w4 big x 0) = 1 then w8 big x 24 else if cls (w4 big x 0) = 2 then w8 big x 16 else 0

theorem ret2 {a b c d : Int} (h : a = c) (h' : b = d) : Ending.returned (.tuple #[.int .u64 a, .int .u64 b]) = .returned (.tuple #[.int .u64 c, .int .u64 d]) := by rw [h, h']

set_option maxHeartbeats 1000000 in
theorem position_any (big : Bool) (x : Nat → Int) (p : Nat) (w : World) (hx : ∀ i, isByte (x i)) (hR : Rec big x p w) :
    Calls Try.prog 12 #[.pointer (some ⟨p, 0, none⟩)] w fun e w' => e = .returned (.tuple #[.int .u64 (posO big x), .int .u64 (posF big x)]) ∧ Below w.heap.size w w' := by
  have HX := hide hx
  have HR := hide hR
  clear hx hR
  by_cases h3 : w4 big x 0 = 3
  · have e1 : cls (w4 big x 0) = 1 := by rw [h3]; rfl
    have E1 := hide e1
    clear e1
    go_enter Try.func12, Try.ntmps12
    go_wp2_with fail
    refine (u32_any big x p 0 w (by omega) HX.out HR.out).mono ?_
    rintro e w1 ⟨rfl, hb1⟩
    have hR1 := HR.out.below hb1
    have HR1 := hide hR1
    clear hR1
    go_wp2_with fail
    refine (u64_any big x p 8 w1 (by omega) HX.out HR1.out).mono ?_
    rintro e w2 ⟨rfl, hb2⟩
    have hR2 := HR1.out.below hb2
    have HR2 := hide hR2
    clear hR2
    go_wp2_with fail
    refine (u64_any big x p 24 w2 (by omega) HX.out HR2.out).mono ?_
    rintro e w3 ⟨rfl, hb3⟩
    go_wp2_with fail
    go_ret2
    refine ⟨ret2 ?_ ?_, (hb1.trans (hb2.mono hb1.size)).trans (hb3.mono (Nat.le_trans hb1.size hb2.size))⟩
    · unfold posO; rw [E1.out]; rfl
    · unfold posF; rw [E1.out]; rfl
  by_cases h4 : w4 big x 0 = 4
  · have e1 : cls (w4 big x 0) = 2 := by rw [h4]; rfl
    have E1 := hide e1
    clear e1
    go_enter Try.func12, Try.ntmps12
    go_wp2_with fail
    refine (u32_any big x p 0 w (by omega) HX.out HR.out).mono ?_
    rintro e w1 ⟨rfl, hb1⟩
    have hR1 := HR.out.below hb1
    have HR1 := hide hR1
    clear hR1
    go_wp2_with fail
    refine (u64_any big x p 8 w1 (by omega) HX.out HR1.out).mono ?_
    rintro e w2 ⟨rfl, hb2⟩
    have hR2 := HR1.out.below hb2
    have HR2 := hide hR2
    clear hR2
    go_wp2_with fail
    refine (u64_any big x p 16 w2 (by omega) HX.out HR2.out).mono ?_
    rintro e w3 ⟨rfl, hb3⟩
    go_wp2_with fail
    go_ret2
    refine ⟨ret2 ?_ ?_, (hb1.trans (hb2.mono hb1.size)).trans (hb3.mono (Nat.le_trans hb1.size hb2.size))⟩
    · unfold posO; rw [E1.out]; rfl
    · unfold posF; rw [E1.out]; rfl
  by_cases h6 : w4 big x 0 = 6
  · have e1 : cls (w4 big x 0) = 2 := by rw [h6]; rfl
    have E1 := hide e1
    clear e1
    go_enter Try.func12, Try.ntmps12
    go_wp2_with fail
    refine (u32_any big x p 0 w (by omega) HX.out HR.out).mono ?_
    rintro e w1 ⟨rfl, hb1⟩
    have hR1 := HR.out.below hb1
    have HR1 := hide hR1
    clear hR1
    go_wp2_with fail
    refine (u64_any big x p 8 w1 (by omega) HX.out HR1.out).mono ?_
    rintro e w2 ⟨rfl, hb2⟩
    have hR2 := HR1.out.below hb2
    have HR2 := hide hR2
    clear hR2
    go_wp2_with fail
    refine (u64_any big x p 16 w2 (by omega) HX.out HR2.out).mono ?_
    rintro e w3 ⟨rfl, hb3⟩
    go_wp2_with fail
    go_ret2
    refine ⟨ret2 ?_ ?_, (hb1.trans (hb2.mono hb1.size)).trans (hb3.mono (Nat.le_trans hb1.size hb2.size))⟩
    · unfold posO; rw [E1.out]; rfl
    · unfold posF; rw [E1.out]; rfl
  by_cases h8 : w4 big x 0 = 8
  · have e1 : cls (w4 big x 0) = 2 := by rw [h8]; rfl
    have E1 := hide e1
    clear e1
    go_enter Try.func12, Try.ntmps12
    go_wp2_with fail
    refine (u32_any big x p 0 w (by omega) HX.out HR.out).mono ?_
    rintro e w1 ⟨rfl, hb1⟩
    have hR1 := HR.out.below hb1
    have HR1 := hide hR1
    clear hR1
    go_wp2_with fail
    refine (u64_any big x p 8 w1 (by omega) HX.out HR1.out).mono ?_
    rintro e w2 ⟨rfl, hb2⟩
    have hR2 := HR1.out.below hb2
    have HR2 := hide hR2
    clear hR2
    go_wp2_with fail
    refine (u64_any big x p 16 w2 (by omega) HX.out HR2.out).mono ?_
    rintro e w3 ⟨rfl, hb3⟩
    go_wp2_with fail
    go_ret2
    refine ⟨ret2 ?_ ?_, (hb1.trans (hb2.mono hb1.size)).trans (hb3.mono (Nat.le_trans hb1.size hb2.size))⟩
    · unfold posO; rw [E1.out]; rfl
    · unfold posF; rw [E1.out]; rfl
  by_cases h10 : w4 big x 0 = 10
  · have e1 : cls (w4 big x 0) = 2 := by rw [h10]; rfl
    have E1 := hide e1
    clear e1
    go_enter Try.func12, Try.ntmps12
    go_wp2_with fail
    refine (u32_any big x p 0 w (by omega) HX.out HR.out).mono ?_
    rintro e w1 ⟨rfl, hb1⟩
    have hR1 := HR.out.below hb1
    have HR1 := hide hR1
    clear hR1
    go_wp2_with fail
    refine (u64_any big x p 8 w1 (by omega) HX.out HR1.out).mono ?_
    rintro e w2 ⟨rfl, hb2⟩
    have hR2 := HR1.out.below hb2
    have HR2 := hide hR2
    clear hR2
    go_wp2_with fail
    refine (u64_any big x p 16 w2 (by omega) HX.out HR2.out).mono ?_
    rintro e w3 ⟨rfl, hb3⟩
    go_wp2_with fail
    go_ret2
    refine ⟨ret2 ?_ ?_, (hb1.trans (hb2.mono hb1.size)).trans (hb3.mono (Nat.le_trans hb1.size hb2.size))⟩
    · unfold posO; rw [E1.out]; rfl
    · unfold posF; rw [E1.out]; rfl
  by_cases h1 : w4 big x 0 = 1
  · have e1 : cls (w4 big x 0) = 3 := by rw [h1]; rfl
    have E1 := hide e1
    clear e1
    go_enter Try.func12, Try.ntmps12
    go_wp2_with fail
    refine (u32_any big x p 0 w (by omega) HX.out HR.out).mono ?_
    rintro e w1 ⟨rfl, hb1⟩
    have hR1 := HR.out.below hb1
    have HR1 := hide hR1
    clear hR1
    go_wp2_with fail
    refine (u64_any big x p 8 w1 (by omega) HX.out HR1.out).mono ?_
    rintro e w2 ⟨rfl, hb2⟩
    have hR2 := HR1.out.below hb2
    have HR2 := hide hR2
    clear hR2
    go_wp2_with fail
    go_ret2
    refine ⟨ret2 ?_ ?_, hb1.trans (hb2.mono hb1.size)⟩
    · unfold posO; rw [E1.out]; rfl
    · unfold posF; rw [E1.out]; rfl
  by_cases h2 : w4 big x 0 = 2
  · have e1 : cls (w4 big x 0) = 3 := by rw [h2]; rfl
    have E1 := hide e1
    clear e1
    go_enter Try.func12, Try.ntmps12
    go_wp2_with fail
    refine (u32_any big x p 0 w (by omega) HX.out HR.out).mono ?_
    rintro e w1 ⟨rfl, hb1⟩
    have hR1 := HR.out.below hb1
    have HR1 := hide hR1
    clear hR1
    go_wp2_with fail
    refine (u64_any big x p 8 w1 (by omega) HX.out HR1.out).mono ?_
    rintro e w2 ⟨rfl, hb2⟩
    have hR2 := HR1.out.below hb2
    have HR2 := hide hR2
    clear hR2
    go_wp2_with fail
    go_ret2
    refine ⟨ret2 ?_ ?_, hb1.trans (hb2.mono hb1.size)⟩
    · unfold posO; rw [E1.out]; rfl
    · unfold posF; rw [E1.out]; rfl
  by_cases h7 : w4 big x 0 = 7
  · have e1 : cls (w4 big x 0) = 3 := by rw [h7]; rfl
    have E1 := hide e1
    clear e1
    go_enter Try.func12, Try.ntmps12
    go_wp2_with fail
    refine (u32_any big x p 0 w (by omega) HX.out HR.out).mono ?_
    rintro e w1 ⟨rfl, hb1⟩
    have hR1 := HR.out.below hb1
    have HR1 := hide hR1
    clear hR1
    go_wp2_with fail
    refine (u64_any big x p 8 w1 (by omega) HX.out HR1.out).mono ?_
    rintro e w2 ⟨rfl, hb2⟩
    have hR2 := HR1.out.below hb2
    have HR2 := hide hR2
    clear hR2
    go_wp2_with fail
    go_ret2
    refine ⟨ret2 ?_ ?_, hb1.trans (hb2.mono hb1.size)⟩
    · unfold posO; rw [E1.out]; rfl
    · unfold posF; rw [E1.out]; rfl
  by_cases h9 : w4 big x 0 = 9
  · have e1 : cls (w4 big x 0) = 3 := by rw [h9]; rfl
    have E1 := hide e1
    clear e1
    go_enter Try.func12, Try.ntmps12
    go_wp2_with fail
    refine (u32_any big x p 0 w (by omega) HX.out HR.out).mono ?_
    rintro e w1 ⟨rfl, hb1⟩
    have hR1 := HR.out.below hb1
    have HR1 := hide hR1
    clear hR1
    go_wp2_with fail
    refine (u64_any big x p 8 w1 (by omega) HX.out HR1.out).mono ?_
    rintro e w2 ⟨rfl, hb2⟩
    have hR2 := HR1.out.below hb2
    have HR2 := hide hR2
    clear hR2
    go_wp2_with fail
    go_ret2
    refine ⟨ret2 ?_ ?_, hb1.trans (hb2.mono hb1.size)⟩
    · unfold posO; rw [E1.out]; rfl
    · unfold posF; rw [E1.out]; rfl
  have e3 : (w4 big x 0 == 3) = false := by simpa using h3
  have e4 : (w4 big x 0 == 4) = false := by simpa using h4
  have e6 : (w4 big x 0 == 6) = false := by simpa using h6
  have e8 : (w4 big x 0 == 8) = false := by simpa using h8
  have e10 : (w4 big x 0 == 10) = false := by simpa using h10
  have e1 : (w4 big x 0 == 1) = false := by simpa using h1
  have e2 : (w4 big x 0 == 2) = false := by simpa using h2
  have e7 : (w4 big x 0 == 7) = false := by simpa using h7
  have e9 : (w4 big x 0 == 9) = false := by simpa using h9
  have e1' : cls (w4 big x 0) = 0 := by simp [cls, h3, h4, h6, h8, h10, h1, h2, h7, h9]
  have E1 := hide e1'
  clear e1' h3 h4 h6 h8 h10 h1 h2 h7 h9
  go_enter Try.func12, Try.ntmps12
  go_wp2_with fail
  refine (u32_any big x p 0 w (by omega) HX.out HR.out).mono ?_
  rintro e w1 ⟨rfl, hb1⟩
  go_wp2_with fail
  go_ret2
  refine ⟨ret2 ?_ ?_, hb1⟩
  · unfold posO; rw [E1.out]; rfl
  · unfold posF; rw [E1.out]; rfl
end Go.Proofs.Qxb6614172a.Pos
