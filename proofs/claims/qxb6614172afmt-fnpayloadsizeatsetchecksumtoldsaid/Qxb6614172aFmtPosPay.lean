/-
  By the prover: THE WALKS of zzHalfAt4, zzRound8, roundUp8 and (*Record).PayloadSize, by the record's type.
-/
import Derived.Test.Qxb6614172aFmtPosFacts
import Derived.Test.Qxb6614172aFmtPosRefuse
import Derived.Test.Qxb6614172aFmtPosZz
namespace Go.Proofs.Qxb6614172aFmt.Pos
open Go.RowKit Go.Deep Go.Extern.Stop Go.Stop Go.Extern

theorem ret_u64 {a b : Int} (h : a = b) : Ending.returned (.int .u64 a) = .returned (.int .u64 b) := by rw [h]

set_option maxHeartbeats 400000 in
theorem half_any (big : Bool) (u : Int) (w : World) (hu : isU64 u) : Calls Tryf.prog 8 #[.int .u64 u, .bool big] w fun e w' => e = .returned (.int .u64 (half big u)) ∧ w' = w := by
  have h1 := and_low u hu
  have H1 := hide h1
  clear h1
  unfold isU64 at hu
  cases big
  · go_enter Tryf.func8, Tryf.ntmps8
    go_wp2
    go_ret
    exact ⟨rfl, rfl⟩
  · go_enter Tryf.func8, Tryf.ntmps8
    go_wp2
    go_ret
    exact ⟨ret_u64 H1.out, rfl⟩

set_option maxHeartbeats 400000 in
theorem round8_any (u : Int) (w : World) (h0 : 0 ≤ u) (h1 : u < 4294967296) : Calls Tryf.prog 9 #[.int .u64 u] w fun e w' => e = .returned (.int .u64 (rnd u)) ∧ w' = w := by
  go_enter Tryf.func9, Tryf.ntmps9
  go_wp2
  go_ret
  exact ⟨ret_u64 (by unfold rnd; omega), rfl⟩

set_option maxHeartbeats 400000 in
theorem roundUp8_any (u : Int) (w : World) (h0 : 0 ≤ u) (h1 : u < 4294967296) : Calls Tryf.prog 13 #[.int .u64 u] w fun e w' => e = .returned (.int .u64 (rnd u)) ∧ w' = w := by
  have h2 := andNot_7 u h0 h1
  have H2 := hide h2
  clear h2
  go_enter Tryf.func13, Tryf.ntmps13
  go_wp2
  go_ret
  exact ⟨ret_u64 H2.out, rfl⟩

theorem retp {a c : Int} (h : a = c) : Ending.returned (.tuple #[.int .u64 a, .nilIface]) = .returned (.tuple #[.int .u64 c, .nilIface]) := by rw [h]

/-- What PayloadSize answers at a type that it knows. -/
def paySize (big : Bool) (y : Nat → Int) : Int :=
  if w4 big y 0 = 1 then (if w4 big y 36 = 0 then rnd (w4 big y 28) else w4 big y 36)
  else if w4 big y 0 = 3 then (if y 50 = 0 then w8 big y 32 else w8 big y 96)
  else if w4 big y 0 = 7 then (if w8 big y 40 = 0 then w8 big y 16 else w8 big y 40)
  else if w4 big y 0 = 8 then rnd (w4 big y 52)
  else 0

set_option maxHeartbeats 1000000 in
theorem pay_5 (big : Bool) (y : Nat → Int) (p : Nat) (w : World) (hx : ∀ i, isByte (y i)) (hR : Rec big y p w) (ht : w4 big y 0 = 5) :
    Calls Tryf.prog 6 #[.pointer (some ⟨p, 0, none⟩)] w fun e w' => e = .returned (.tuple #[.int .u64 (paySize big y), .nilIface]) ∧ Below w.heap.size w w' := by
  have HX := hide hx
  have HR := hide hR
  have HP : Hid (paySize big y = 0) := hide (by unfold paySize; rw [ht]; rfl)
  clear hx hR
  go_enter Tryf.func6, Tryf.ntmps6
  go_wp2_with fail
  refine (u32_any big y p 0 w (by omega) HX.out HR.out).mono ?_
  rintro e w1 ⟨rfl, hb1⟩
  have HR1 := hide (HR.out.below hb1)
  go_wp2_with fail
  go_ret2
  exact ⟨retp HP.out.symm, hb1⟩

set_option maxHeartbeats 1000000 in
theorem pay_2 (big : Bool) (y : Nat → Int) (p : Nat) (w : World) (hx : ∀ i, isByte (y i)) (hR : Rec big y p w) (ht : w4 big y 0 = 2) :
    Calls Tryf.prog 6 #[.pointer (some ⟨p, 0, none⟩)] w fun e w' => e = .returned (.tuple #[.int .u64 (paySize big y), .nilIface]) ∧ Below w.heap.size w w' := by
  have HX := hide hx
  have HR := hide hR
  have HP : Hid (paySize big y = 0) := hide (by unfold paySize; rw [ht]; rfl)
  clear hx hR
  go_enter Tryf.func6, Tryf.ntmps6
  go_wp2_with fail
  refine (u32_any big y p 0 w (by omega) HX.out HR.out).mono ?_
  rintro e w1 ⟨rfl, hb1⟩
  have HR1 := hide (HR.out.below hb1)
  go_wp2_with fail
  go_ret2
  exact ⟨retp HP.out.symm, hb1⟩

set_option maxHeartbeats 1000000 in
theorem pay_4 (big : Bool) (y : Nat → Int) (p : Nat) (w : World) (hx : ∀ i, isByte (y i)) (hR : Rec big y p w) (ht : w4 big y 0 = 4) :
    Calls Tryf.prog 6 #[.pointer (some ⟨p, 0, none⟩)] w fun e w' => e = .returned (.tuple #[.int .u64 (paySize big y), .nilIface]) ∧ Below w.heap.size w w' := by
  have HX := hide hx
  have HR := hide hR
  have HP : Hid (paySize big y = 0) := hide (by unfold paySize; rw [ht]; rfl)
  clear hx hR
  go_enter Tryf.func6, Tryf.ntmps6
  go_wp2_with fail
  refine (u32_any big y p 0 w (by omega) HX.out HR.out).mono ?_
  rintro e w1 ⟨rfl, hb1⟩
  have HR1 := hide (HR.out.below hb1)
  go_wp2_with fail
  go_ret2
  exact ⟨retp HP.out.symm, hb1⟩

set_option maxHeartbeats 1000000 in
theorem pay_6 (big : Bool) (y : Nat → Int) (p : Nat) (w : World) (hx : ∀ i, isByte (y i)) (hR : Rec big y p w) (ht : w4 big y 0 = 6) :
    Calls Tryf.prog 6 #[.pointer (some ⟨p, 0, none⟩)] w fun e w' => e = .returned (.tuple #[.int .u64 (paySize big y), .nilIface]) ∧ Below w.heap.size w w' := by
  have HX := hide hx
  have HR := hide hR
  have HP : Hid (paySize big y = 0) := hide (by unfold paySize; rw [ht]; rfl)
  clear hx hR
  go_enter Tryf.func6, Tryf.ntmps6
  go_wp2_with fail
  refine (u32_any big y p 0 w (by omega) HX.out HR.out).mono ?_
  rintro e w1 ⟨rfl, hb1⟩
  have HR1 := hide (HR.out.below hb1)
  go_wp2_with fail
  go_ret2
  exact ⟨retp HP.out.symm, hb1⟩

set_option maxHeartbeats 1000000 in
theorem pay_9 (big : Bool) (y : Nat → Int) (p : Nat) (w : World) (hx : ∀ i, isByte (y i)) (hR : Rec big y p w) (ht : w4 big y 0 = 9) :
    Calls Tryf.prog 6 #[.pointer (some ⟨p, 0, none⟩)] w fun e w' => e = .returned (.tuple #[.int .u64 (paySize big y), .nilIface]) ∧ Below w.heap.size w w' := by
  have HX := hide hx
  have HR := hide hR
  have HP : Hid (paySize big y = 0) := hide (by unfold paySize; rw [ht]; rfl)
  clear hx hR
  go_enter Tryf.func6, Tryf.ntmps6
  go_wp2_with fail
  refine (u32_any big y p 0 w (by omega) HX.out HR.out).mono ?_
  rintro e w1 ⟨rfl, hb1⟩
  have HR1 := hide (HR.out.below hb1)
  go_wp2_with fail
  go_ret2
  exact ⟨retp HP.out.symm, hb1⟩

set_option maxHeartbeats 1000000 in
theorem pay_10 (big : Bool) (y : Nat → Int) (p : Nat) (w : World) (hx : ∀ i, isByte (y i)) (hR : Rec big y p w) (ht : w4 big y 0 = 10) :
    Calls Tryf.prog 6 #[.pointer (some ⟨p, 0, none⟩)] w fun e w' => e = .returned (.tuple #[.int .u64 (paySize big y), .nilIface]) ∧ Below w.heap.size w w' := by
  have HX := hide hx
  have HR := hide hR
  have HP : Hid (paySize big y = 0) := hide (by unfold paySize; rw [ht]; rfl)
  clear hx hR
  go_enter Tryf.func6, Tryf.ntmps6
  go_wp2_with fail
  refine (u32_any big y p 0 w (by omega) HX.out HR.out).mono ?_
  rintro e w1 ⟨rfl, hb1⟩
  have HR1 := hide (HR.out.below hb1)
  go_wp2_with fail
  go_ret2
  exact ⟨retp HP.out.symm, hb1⟩

set_option maxHeartbeats 1000000 in
theorem pay_1 (big : Bool) (y : Nat → Int) (p : Nat) (w : World) (hx : ∀ i, isByte (y i)) (hR : Rec big y p w) (ht : w4 big y 0 = 1) :
    Calls Tryf.prog 6 #[.pointer (some ⟨p, 0, none⟩)] w fun e w' => e = .returned (.tuple #[.int .u64 (paySize big y), .nilIface]) ∧ Below w.heap.size w w' := by
  have HX := hide hx
  have HR := hide hR
  have HP : Hid (paySize big y = (if w4 big y 36 = 0 then rnd (w4 big y 28) else w4 big y 36)) := hide (by unfold paySize; rw [ht]; rfl)
  clear hx hR
  obtain ⟨n0, n1⟩ := w4_in big y 28 HX.out
  by_cases hz : w4 big y 36 = 0
  · have e1 : paySize big y = rnd (w4 big y 28) := by rw [HP.out, if_pos hz]
    have E1 := hide e1
    clear e1
    go_enter Tryf.func6, Tryf.ntmps6
    go_wp2_with fail
    refine (u32_any big y p 0 w (by omega) HX.out HR.out).mono ?_
    rintro e w1 ⟨rfl, hb1⟩
    have HR1 := hide (HR.out.below hb1)
    go_wp2_with fail
    refine (u32_any big y p 36 w1 (by omega) HX.out HR1.out).mono ?_
    rintro e w2 ⟨rfl, hb2⟩
    have HR2 := hide (HR1.out.below hb2)
    go_wp2_with fail
    refine (u32_any big y p 28 w2 (by omega) HX.out HR2.out).mono ?_
    rintro e w3 ⟨rfl, hb3⟩
    go_wp2_with fail
    refine (roundUp8_any _ w3 n0 n1).mono ?_
    rintro e w4' ⟨rfl, hw⟩
    replace hw := hw.symm
    subst hw
    go_wp2_with fail
    go_ret2
    exact ⟨retp E1.out.symm, (hb1.trans (hb2.mono hb1.size)).trans (hb3.mono (Nat.le_trans hb1.size hb2.size))⟩
  · have e1 : paySize big y = w4 big y 36 := by rw [HP.out, if_neg hz]
    have E1 := hide e1
    have hz' : (w4 big y 36 != 0) = true := by simpa using hz
    clear e1 hz
    go_enter Tryf.func6, Tryf.ntmps6
    go_wp2_with fail
    refine (u32_any big y p 0 w (by omega) HX.out HR.out).mono ?_
    rintro e w1 ⟨rfl, hb1⟩
    have HR1 := hide (HR.out.below hb1)
    go_wp2_with fail
    refine (u32_any big y p 36 w1 (by omega) HX.out HR1.out).mono ?_
    rintro e w2 ⟨rfl, hb2⟩
    go_wp2_with fail
    go_ret2
    exact ⟨retp E1.out.symm, hb1.trans (hb2.mono hb1.size)⟩

set_option maxHeartbeats 1000000 in
theorem pay_3 (big : Bool) (y : Nat → Int) (p : Nat) (w : World) (hx : ∀ i, isByte (y i)) (hR : Rec big y p w) (ht : w4 big y 0 = 3) :
    Calls Tryf.prog 6 #[.pointer (some ⟨p, 0, none⟩)] w fun e w' => e = .returned (.tuple #[.int .u64 (paySize big y), .nilIface]) ∧ Below w.heap.size w w' := by
  have HX := hide hx
  have HR := hide hR
  have HP : Hid (paySize big y = (if y 50 = 0 then w8 big y 32 else w8 big y 96)) := hide (by unfold paySize; rw [ht]; rfl)
  clear hx hR
  by_cases hz : y 50 = 0
  · have e1 : paySize big y = w8 big y 32 := by rw [HP.out, if_pos hz]
    have E1 := hide e1
    clear e1
    go_enter Tryf.func6, Tryf.ntmps6
    go_wp2_with fail
    refine (u32_any big y p 0 w (by omega) HX.out HR.out).mono ?_
    rintro e w1 ⟨rfl, hb1⟩
    have HR1 := hide (HR.out.below hb1)
    have c50 : w1.cell? ⟨p, 50, none⟩ = some (.int .u8 (y 50)) := HR1.out.cell (by omega)
    rw [hz] at c50
    clear hz
    go_wp2_with fail
    refine (u64_any big y p 32 w1 (by omega) HX.out HR1.out).mono ?_
    rintro e w2 ⟨rfl, hb2⟩
    go_wp2_with fail
    go_ret2
    exact ⟨retp E1.out.symm, hb1.trans (hb2.mono hb1.size)⟩
  · have e1 : paySize big y = w8 big y 96 := by rw [HP.out, if_neg hz]
    have E1 := hide e1
    have hz' : (y 50 != 0) = true := by simpa using hz
    clear e1 hz
    go_enter Tryf.func6, Tryf.ntmps6
    go_wp2_with fail
    refine (u32_any big y p 0 w (by omega) HX.out HR.out).mono ?_
    rintro e w1 ⟨rfl, hb1⟩
    have HR1 := hide (HR.out.below hb1)
    have c50 : w1.cell? ⟨p, 50, none⟩ = some (.int .u8 (y 50)) := HR1.out.cell (by omega)
    go_wp2_with fail
    refine (u64_any big y p 96 w1 (by omega) HX.out HR1.out).mono ?_
    rintro e w2 ⟨rfl, hb2⟩
    go_wp2_with fail
    go_ret2
    exact ⟨retp E1.out.symm, hb1.trans (hb2.mono hb1.size)⟩

set_option maxHeartbeats 1000000 in
theorem pay_7 (big : Bool) (y : Nat → Int) (p : Nat) (w : World) (hx : ∀ i, isByte (y i)) (hR : Rec big y p w) (ht : w4 big y 0 = 7) :
    Calls Tryf.prog 6 #[.pointer (some ⟨p, 0, none⟩)] w fun e w' => e = .returned (.tuple #[.int .u64 (paySize big y), .nilIface]) ∧ Below w.heap.size w w' := by
  have HX := hide hx
  have HR := hide hR
  have HP : Hid (paySize big y = (if w8 big y 40 = 0 then w8 big y 16 else w8 big y 40)) := hide (by unfold paySize; rw [ht]; rfl)
  clear hx hR
  by_cases hz : w8 big y 40 = 0
  · have e1 : paySize big y = w8 big y 16 := by rw [HP.out, if_pos hz]
    have E1 := hide e1
    clear e1
    go_enter Tryf.func6, Tryf.ntmps6
    go_wp2_with fail
    refine (u32_any big y p 0 w (by omega) HX.out HR.out).mono ?_
    rintro e w1 ⟨rfl, hb1⟩
    have HR1 := hide (HR.out.below hb1)
    go_wp2_with fail
    refine (u64_any big y p 40 w1 (by omega) HX.out HR1.out).mono ?_
    rintro e w2 ⟨rfl, hb2⟩
    have HR2 := hide (HR1.out.below hb2)
    go_wp2_with fail
    refine (u64_any big y p 16 w2 (by omega) HX.out HR2.out).mono ?_
    rintro e w3 ⟨rfl, hb3⟩
    go_wp2_with fail
    go_ret2
    exact ⟨retp E1.out.symm, (hb1.trans (hb2.mono hb1.size)).trans (hb3.mono (Nat.le_trans hb1.size hb2.size))⟩
  · have e1 : paySize big y = w8 big y 40 := by rw [HP.out, if_neg hz]
    have E1 := hide e1
    have hz' : (w8 big y 40 != 0) = true := by simpa using hz
    clear e1 hz
    go_enter Tryf.func6, Tryf.ntmps6
    go_wp2_with fail
    refine (u32_any big y p 0 w (by omega) HX.out HR.out).mono ?_
    rintro e w1 ⟨rfl, hb1⟩
    have HR1 := hide (HR.out.below hb1)
    go_wp2_with fail
    refine (u64_any big y p 40 w1 (by omega) HX.out HR1.out).mono ?_
    rintro e w2 ⟨rfl, hb2⟩
    go_wp2_with fail
    go_ret2
    exact ⟨retp E1.out.symm, hb1.trans (hb2.mono hb1.size)⟩

set_option maxHeartbeats 1000000 in
theorem pay_8 (big : Bool) (y : Nat → Int) (p : Nat) (w : World) (hx : ∀ i, isByte (y i)) (hR : Rec big y p w) (ht : w4 big y 0 = 8) :
    Calls Tryf.prog 6 #[.pointer (some ⟨p, 0, none⟩)] w fun e w' => e = .returned (.tuple #[.int .u64 (paySize big y), .nilIface]) ∧ Below w.heap.size w w' := by
  have HX := hide hx
  have HR := hide hR
  have HP : Hid (paySize big y = rnd (w4 big y 52)) := hide (by unfold paySize; rw [ht]; rfl)
  clear hx hR
  obtain ⟨n0, n1⟩ := w4_in big y 52 HX.out
  go_enter Tryf.func6, Tryf.ntmps6
  go_wp2_with fail
  refine (u32_any big y p 0 w (by omega) HX.out HR.out).mono ?_
  rintro e w1 ⟨rfl, hb1⟩
  have HR1 := hide (HR.out.below hb1)
  go_wp2_with fail
  refine (u32_any big y p 52 w1 (by omega) HX.out HR1.out).mono ?_
  rintro e w2 ⟨rfl, hb2⟩
  go_wp2_with fail
  refine (roundUp8_any _ w2 n0 n1).mono ?_
  rintro e w4' ⟨rfl, hw⟩
  replace hw := hw.symm
  subst hw
  go_wp2_with fail
  go_ret2
  exact ⟨retp HP.out.symm, hb1.trans (hb2.mono hb1.size)⟩

set_option maxHeartbeats 1000000 in
theorem pay_0 (F : Interp) (big : Bool) (y : Nat → Int) (p : Nat) (w : World) (hF : F.answers w.tape) (hx : ∀ i, isByte (y i)) (hR : Rec big y p w) (ht : w4 big y 0 = 0) :
    Calls Tryf.prog 6 #[.pointer (some ⟨p, 0, none⟩)] w fun e w' => (∃ b, e = .returned (.tuple #[.int .u64 0, .iface 53 (.pointer (some ⟨b, 0, none⟩))])) ∧ Below w.heap.size w w' := by
  have HX := hide hx
  have HR := hide hR
  have HF := hide hF
  clear hx hR hF
  go_enter Tryf.func6, Tryf.ntmps6
  go_wp2_with fail
  refine (u32_any big y p 0 w (by omega) HX.out HR.out).mono ?_
  rintro e w1 ⟨rfl, hb1⟩
  have HR1 := hide (HR.out.below hb1)
  go_wp2_with fail
  refine (refuseA F w1 (by rw [hb1.tape]; exact HF.out)).mono ?_
  rintro e w2 ⟨⟨b, rfl⟩, hb2⟩
  go_wp2_with fail
  go_ret2
  exact ⟨⟨b, rfl⟩, hb1.trans (hb2.mono hb1.size)⟩

set_option maxHeartbeats 1000000 in
theorem pay_else (F : Interp) (big : Bool) (y : Nat → Int) (p : Nat) (w : World) (hF : F.answers w.tape) (hx : ∀ i, isByte (y i)) (hR : Rec big y p w) (h5 : w4 big y 0 ≠ 5) (h2 : w4 big y 0 ≠ 2) (h4 : w4 big y 0 ≠ 4) (h6 : w4 big y 0 ≠ 6) (h9 : w4 big y 0 ≠ 9) (h10 : w4 big y 0 ≠ 10) (h1 : w4 big y 0 ≠ 1) (h3 : w4 big y 0 ≠ 3) (h7 : w4 big y 0 ≠ 7) (h8 : w4 big y 0 ≠ 8) (h0 : w4 big y 0 ≠ 0) :
    Calls Tryf.prog 6 #[.pointer (some ⟨p, 0, none⟩)] w fun e w' => (∃ b, e = .returned (.tuple #[.int .u64 0, .iface 53 (.pointer (some ⟨b, 0, none⟩))])) ∧ Below w.heap.size w w' := by
  have HX := hide hx
  have HR := hide hR
  have HF := hide hF
  have e5 : (w4 big y 0 == 5) = false := by simpa using h5
  have e2 : (w4 big y 0 == 2) = false := by simpa using h2
  have e4 : (w4 big y 0 == 4) = false := by simpa using h4
  have e6 : (w4 big y 0 == 6) = false := by simpa using h6
  have e9 : (w4 big y 0 == 9) = false := by simpa using h9
  have e10 : (w4 big y 0 == 10) = false := by simpa using h10
  have e1 : (w4 big y 0 == 1) = false := by simpa using h1
  have e3 : (w4 big y 0 == 3) = false := by simpa using h3
  have e7 : (w4 big y 0 == 7) = false := by simpa using h7
  have e8 : (w4 big y 0 == 8) = false := by simpa using h8
  have e0 : (w4 big y 0 == 0) = false := by simpa using h0
  clear hx hR hF h5 h2 h4 h6 h9 h10 h1 h3 h7 h8 h0
  go_enter Tryf.func6, Tryf.ntmps6
  go_wp2_with fail
  refine (u32_any big y p 0 w (by omega) HX.out HR.out).mono ?_
  rintro e w1 ⟨rfl, hb1⟩
  have HR1 := hide (HR.out.below hb1)
  go_wp2_with fail
  refine (refuseB F w1.heap.size (w4 big y 0) _ (by show F.answers w1.tape; rw [hb1.tape]; exact HF.out) (by simp)).mono ?_
  rintro e w2 ⟨⟨b, rfl⟩, hb2⟩
  go_wp2_with fail
  go_ret2
  exact ⟨⟨b, rfl⟩, (hb1.alloc hb1.size _).trans (hb2.mono (by have := hb1.size; simp; omega))⟩
end Go.Proofs.Qxb6614172aFmt.Pos
