/-
  By the prover: THE WALK of FnPayloadSizeAtSetChecksum.
-/
import Derived.Test.Qxb6614172aFmtPosPay
namespace Go.Proofs.Qxb6614172aFmt.Pos
open Go.RowKit Go.Deep Go.Extern.Stop Go.Stop Go.Extern

/-- The two boxed parameters lie where they were laid; what was there is as it was. -/
structure Bx (w : World) (A C : Obj) (W : World) : Prop where
  a : W.heap[w.heap.size]? = some A
  c : W.heap[w.heap.size + 1]? = some C
  bel : Below w.heap.size w W
  sz : w.heap.size + 2 ≤ W.heap.size

theorem Bx.start (w : World) (A C : Obj) : Bx w A C ((w.alloc A).alloc C) :=
  ⟨heap_alloc2_old _ _ _, heap_alloc2_new _ _ _, ((Below.refl _ _).alloc (Nat.le_refl _) _).alloc (by simp) _, by simp⟩
theorem Bx.next {w W W' : World} {A C : Obj} {B : Nat} (h : Bx w A C W) (hB : w.heap.size + 2 ≤ B) (hb : Below B W W') : Bx w A C W' :=
  ⟨(hb.block _ (by omega)).trans h.a, (hb.block _ (by omega)).trans h.c, h.bel.trans (hb.mono (by omega)), Nat.le_trans h.sz hb.size⟩

def known (t : Int) : Prop := t = 5 ∨ t = 2 ∨ t = 4 ∨ t = 6 ∨ t = 9 ∨ t = 10 ∨ t = 1 ∨ t = 3 ∨ t = 7 ∨ t = 8

/-- What PayloadSize answers, size and error. -/
def Pay (big : Bool) (y : Nat → Int) (sz : Int) (ev : Value) : Prop :=
  (known (w4 big y 0) → sz = paySize big y ∧ ev = .nilIface) ∧ (¬ known (w4 big y 0) → sz = 0 ∧ ∃ b, ev = .iface 53 (.pointer (some ⟨b, 0, none⟩)))

theorem pay_any (F : Interp) (big : Bool) (y : Nat → Int) (p : Nat) (w : World) (hF : F.answers w.tape) (hx : ∀ i, isByte (y i)) (hR : Rec big y p w) :
    Calls Tryf.prog 6 #[.pointer (some ⟨p, 0, none⟩)] w fun e w' => ∃ sz ev, e = .returned (.tuple #[.int .u64 sz, ev]) ∧ Pay big y sz ev ∧ Below w.heap.size w w' := by
  by_cases h5 : w4 big y 0 = 5
  · have hk : known (w4 big y 0) := by unfold known; omega
    refine (pay_5 big y p w hx hR h5).mono ?_
    rintro e w' ⟨rfl, hb⟩
    exact ⟨_, _, rfl, ⟨fun _ => ⟨rfl, rfl⟩, fun h => absurd hk h⟩, hb⟩
  by_cases h2 : w4 big y 0 = 2
  · have hk : known (w4 big y 0) := by unfold known; omega
    refine (pay_2 big y p w hx hR h2).mono ?_
    rintro e w' ⟨rfl, hb⟩
    exact ⟨_, _, rfl, ⟨fun _ => ⟨rfl, rfl⟩, fun h => absurd hk h⟩, hb⟩
  by_cases h4 : w4 big y 0 = 4
  · have hk : known (w4 big y 0) := by unfold known; omega
    refine (pay_4 big y p w hx hR h4).mono ?_
    rintro e w' ⟨rfl, hb⟩
    exact ⟨_, _, rfl, ⟨fun _ => ⟨rfl, rfl⟩, fun h => absurd hk h⟩, hb⟩
  by_cases h6 : w4 big y 0 = 6
  · have hk : known (w4 big y 0) := by unfold known; omega
    refine (pay_6 big y p w hx hR h6).mono ?_
    rintro e w' ⟨rfl, hb⟩
    exact ⟨_, _, rfl, ⟨fun _ => ⟨rfl, rfl⟩, fun h => absurd hk h⟩, hb⟩
  by_cases h9 : w4 big y 0 = 9
  · have hk : known (w4 big y 0) := by unfold known; omega
    refine (pay_9 big y p w hx hR h9).mono ?_
    rintro e w' ⟨rfl, hb⟩
    exact ⟨_, _, rfl, ⟨fun _ => ⟨rfl, rfl⟩, fun h => absurd hk h⟩, hb⟩
  by_cases h10 : w4 big y 0 = 10
  · have hk : known (w4 big y 0) := by unfold known; omega
    refine (pay_10 big y p w hx hR h10).mono ?_
    rintro e w' ⟨rfl, hb⟩
    exact ⟨_, _, rfl, ⟨fun _ => ⟨rfl, rfl⟩, fun h => absurd hk h⟩, hb⟩
  by_cases h1 : w4 big y 0 = 1
  · have hk : known (w4 big y 0) := by unfold known; omega
    refine (pay_1 big y p w hx hR h1).mono ?_
    rintro e w' ⟨rfl, hb⟩
    exact ⟨_, _, rfl, ⟨fun _ => ⟨rfl, rfl⟩, fun h => absurd hk h⟩, hb⟩
  by_cases h3 : w4 big y 0 = 3
  · have hk : known (w4 big y 0) := by unfold known; omega
    refine (pay_3 big y p w hx hR h3).mono ?_
    rintro e w' ⟨rfl, hb⟩
    exact ⟨_, _, rfl, ⟨fun _ => ⟨rfl, rfl⟩, fun h => absurd hk h⟩, hb⟩
  by_cases h7 : w4 big y 0 = 7
  · have hk : known (w4 big y 0) := by unfold known; omega
    refine (pay_7 big y p w hx hR h7).mono ?_
    rintro e w' ⟨rfl, hb⟩
    exact ⟨_, _, rfl, ⟨fun _ => ⟨rfl, rfl⟩, fun h => absurd hk h⟩, hb⟩
  by_cases h8 : w4 big y 0 = 8
  · have hk : known (w4 big y 0) := by unfold known; omega
    refine (pay_8 big y p w hx hR h8).mono ?_
    rintro e w' ⟨rfl, hb⟩
    exact ⟨_, _, rfl, ⟨fun _ => ⟨rfl, rfl⟩, fun h => absurd hk h⟩, hb⟩
  have hk : ¬ known (w4 big y 0) := by unfold known; omega
  by_cases h0 : w4 big y 0 = 0
  · refine (pay_0 F big y p w hF hx hR h0).mono ?_
    rintro e w' ⟨⟨b, rfl⟩, hb⟩
    exact ⟨_, _, rfl, ⟨fun h => absurd h hk, fun _ => ⟨rfl, b, rfl⟩⟩, hb⟩
  · refine (pay_else F big y p w hF hx hR h5 h2 h4 h6 h9 h10 h1 h3 h7 h8 h0).mono ?_
    rintro e w' ⟨⟨b, rfl⟩, hb⟩
    exact ⟨_, _, rfl, ⟨fun h => absurd h hk, fun _ => ⟨rfl, b, rfl⟩⟩, hb⟩

set_option maxHeartbeats 2000000 in
theorem lawC (F : Interp) (arr : Array Value) (big : Bool) (x : Nat → Int) (s0 s1 s2 s3 : Int) (w : World) (hF : F.answers w.tape) (hn : arr.size = 312) (ha : ∀ i, i < 312 → arr[i]? = some (.int .u8 (x i))) (hx : ∀ i, isByte (x i))
    (h0 : isU64 s0) (h1 : isU64 s1) (h2 : isU64 s2) (h3 : isU64 s3) :
    Calls Tryf.prog 3 #[.agg arr, .bool big, .agg #[.int .u64 s0, .int .u64 s1, .int .u64 s2, .int .u64 s3]] w fun e w' => e = .returned (.bool true) ∧ Below w.heap.size w w' := by
  have hsz : (Tryf.prog.info? 22).map (·.size) = some arr.size := by rw [Tryf.size22, hn]
  have Hsz := hide hsz
  have Hn := hide hn
  have Ha := hide ha
  have Hx := hide hx
  have HF := hide hF
  have H2 := hide h2
  have H3 := hide h3
  have Hc := hide (fun p W (hR : Rec big x p W) => checksum_any big x p s0 s1 s2 s3 W h0 h1 h2 h3 hR)
  have hy := sums_byte big x s0 s1 s2 s3 hx h0 h1 h2 h3
  have Hy := hide hy
  have HT := hide (sums_type big x s0 s1 s2 s3)
  clear hsz hn ha hx hy hF h0 h1 h2 h3
  go_enter Tryf.func3, Tryf.ntmps3
  go_wp2_with (first
    | refine wpList_load_row rfl 22 _ rfl w.heap.size rfl 22 arr (0, 0) _ (heap_alloc2_old _ _ _) Tryf.underlying22 rfl Hsz.out ?_)
  refine (rec_any arr big x _ Hn.out Ha.out).mono ?_
  rintro e w1 ⟨p, rfl, hp, hR1, hb1⟩
  rw [World.size_alloc, World.size_alloc] at hp
  have B1 := (Bx.start w _ _).next (by simp) hb1
  have HR1 := hide hR1
  have HB1 := hide B1
  have c0 : w1.cell? ⟨w.heap.size + 1, 0, none⟩ = some (.int .u64 s0) := cell_of_row w1 _ 0 _ _ _ B1.c
  have c1 : w1.cell? ⟨w.heap.size + 1, 1, none⟩ = some (.int .u64 s1) := cell_of_row w1 _ 1 _ _ _ B1.c
  have c2 : w1.cell? ⟨w.heap.size + 1, 2, none⟩ = some (.int .u64 s2) := cell_of_row w1 _ 2 _ _ _ B1.c
  have c3 : w1.cell? ⟨w.heap.size + 1, 3, none⟩ = some (.int .u64 s3) := cell_of_row w1 _ 3 _ _ _ B1.c
  clear hR1 hb1 B1
  go_wp2_with fail
  refine (Hc.out p w1 HR1.out).mono ?_
  rintro e w2 ⟨rfl, hR2, hb2⟩
  have B2 := HB1.out.next (by omega) hb2
  have HR2 := hide hR2
  have HB2 := hide B2
  clear hR2 hb2 B2 c0 c1 c2 c3
  go_wp2_with fail
  refine (pay_any F big _ p w2 (by rw [HB2.out.bel.tape]; exact HF.out) Hy.out HR2.out).mono ?_
  rintro e w3 ⟨sz, ev, rfl, hpay, hb3⟩
  have HP := hide hpay
  have B3 := HB2.out.next HB2.out.sz hb3
  have HB3 := hide B3
  clear hb3 B3 hpay
  go_wp2_with (first
    | refine wpList_load_row rfl 22 _ rfl w.heap.size rfl 22 arr (0, 0) _ HB3.out.a Tryf.underlying22 rfl Hsz.out ?_)
  refine (zword4 big arr x 0 w3 (by omega) Ha.out Hx.out).mono ?_
  rintro e w4' ⟨rfl, hb4⟩
  have B4 := HB3.out.next HB3.out.sz hb4
  have HB4 := hide B4
  have c1 : w4'.cell? ⟨w.heap.size + 1, 1, none⟩ = some (.int .u64 s1) := cell_of_row w4' _ 1 _ _ _ B4.c
  have c2 : w4'.cell? ⟨w.heap.size + 1, 2, none⟩ = some (.int .u64 s2) := cell_of_row w4' _ 2 _ _ _ B4.c
  have c3 : w4'.cell? ⟨w.heap.size + 1, 3, none⟩ = some (.int .u64 s3) := cell_of_row w4' _ 3 _ _ _ B4.c
  have c50 : w4'.cell? ⟨w.heap.size, 50, none⟩ = some (.int .u8 (x 50)) := (cell_of_row w4' _ 50 _ _ _ B4.a).trans (Ha.out 50 (by omega))
  clear hb4 B4
  by_cases h5 : w4 big x 0 = 5
  · have hk : known (w4 big (sums big x s0 s1 s2 s3 4) 0) := by rw [HT.out]; unfold known; omega
    obtain ⟨hs, hev⟩ := HP.out.1 hk
    have ht : w4 big (sums big x s0 s1 s2 s3 4) 0 = 5 := by rw [HT.out]; exact h5
    unfold paySize at hs
    rw [ht] at hs
    clear hk ht
    subst hev
    have hs' : sz = 0 := hs
    subst hs'
    clear hs
    go_wp2_with fail
    go_ret
    exact ⟨rfl, HB4.out.bel⟩
  by_cases h2 : w4 big x 0 = 2
  · have hk : known (w4 big (sums big x s0 s1 s2 s3 4) 0) := by rw [HT.out]; unfold known; omega
    obtain ⟨hs, hev⟩ := HP.out.1 hk
    have ht : w4 big (sums big x s0 s1 s2 s3 4) 0 = 2 := by rw [HT.out]; exact h2
    unfold paySize at hs
    rw [ht] at hs
    clear hk ht
    subst hev
    have hs' : sz = 0 := hs
    subst hs'
    clear hs
    go_wp2_with fail
    go_ret
    exact ⟨rfl, HB4.out.bel⟩
  by_cases h4 : w4 big x 0 = 4
  · have hk : known (w4 big (sums big x s0 s1 s2 s3 4) 0) := by rw [HT.out]; unfold known; omega
    obtain ⟨hs, hev⟩ := HP.out.1 hk
    have ht : w4 big (sums big x s0 s1 s2 s3 4) 0 = 4 := by rw [HT.out]; exact h4
    unfold paySize at hs
    rw [ht] at hs
    clear hk ht
    subst hev
    have hs' : sz = 0 := hs
    subst hs'
    clear hs
    go_wp2_with fail
    go_ret
    exact ⟨rfl, HB4.out.bel⟩
  by_cases h6 : w4 big x 0 = 6
  · have hk : known (w4 big (sums big x s0 s1 s2 s3 4) 0) := by rw [HT.out]; unfold known; omega
    obtain ⟨hs, hev⟩ := HP.out.1 hk
    have ht : w4 big (sums big x s0 s1 s2 s3 4) 0 = 6 := by rw [HT.out]; exact h6
    unfold paySize at hs
    rw [ht] at hs
    clear hk ht
    subst hev
    have hs' : sz = 0 := hs
    subst hs'
    clear hs
    go_wp2_with fail
    go_ret
    exact ⟨rfl, HB4.out.bel⟩
  by_cases h9 : w4 big x 0 = 9
  · have hk : known (w4 big (sums big x s0 s1 s2 s3 4) 0) := by rw [HT.out]; unfold known; omega
    obtain ⟨hs, hev⟩ := HP.out.1 hk
    have ht : w4 big (sums big x s0 s1 s2 s3 4) 0 = 9 := by rw [HT.out]; exact h9
    unfold paySize at hs
    rw [ht] at hs
    clear hk ht
    subst hev
    have hs' : sz = 0 := hs
    subst hs'
    clear hs
    go_wp2_with fail
    go_ret
    exact ⟨rfl, HB4.out.bel⟩
  by_cases h10 : w4 big x 0 = 10
  · have hk : known (w4 big (sums big x s0 s1 s2 s3 4) 0) := by rw [HT.out]; unfold known; omega
    obtain ⟨hs, hev⟩ := HP.out.1 hk
    have ht : w4 big (sums big x s0 s1 s2 s3 4) 0 = 10 := by rw [HT.out]; exact h10
    unfold paySize at hs
    rw [ht] at hs
    clear hk ht
    subst hev
    have hs' : sz = 0 := hs
    subst hs'
    clear hs
    go_wp2_with fail
    go_ret
    exact ⟨rfl, HB4.out.bel⟩
  by_cases h1 : w4 big x 0 = 1
  · have hk : known (w4 big (sums big x s0 s1 s2 s3 4) 0) := by rw [HT.out]; unfold known; omega
    obtain ⟨hs, hev⟩ := HP.out.1 hk
    have ht : w4 big (sums big x s0 s1 s2 s3 4) 0 = 1 := by rw [HT.out]; exact h1
    unfold paySize at hs
    rw [ht] at hs
    clear hk ht
    subst hev
    have hs' : sz = if half big s3 = 0 then rnd (half big s2) else half big s3 := by
      rw [sums_36, sums_28] at hs; exact hs
    clear hs
    have hh2 := half_in big s2 H2.out
    by_cases hz : half big s3 = 0
    · rw [if_pos hz] at hs'
      subst hs'
      go_wp2_with fail
      refine (half_any big s3 w4' H3.out).mono ?_
      rintro e w5 ⟨rfl, hw⟩
      replace hw := hw.symm
      subst hw
      go_wp2_with fail
      refine (half_any big s2 w4' H2.out).mono ?_
      rintro e w5 ⟨rfl, hw⟩
      replace hw := hw.symm
      subst hw
      go_wp2_with fail
      refine (round8_any _ w4' hh2.1 hh2.2).mono ?_
      rintro e w5 ⟨rfl, hw⟩
      replace hw := hw.symm
      subst hw
      go_wp2_with fail
      go_ret
      exact ⟨rfl, HB4.out.bel⟩
    · rw [if_neg hz] at hs'
      subst hs'
      have hz' : (half big s3 == 0) = false := by simpa using hz
      clear hz
      go_wp2_with fail
      refine (half_any big s3 w4' H3.out).mono ?_
      rintro e w5 ⟨rfl, hw⟩
      replace hw := hw.symm
      subst hw
      go_wp2_with fail
      go_ret
      exact ⟨rfl, HB4.out.bel⟩
  by_cases h3 : w4 big x 0 = 3
  · have hk : known (w4 big (sums big x s0 s1 s2 s3 4) 0) := by rw [HT.out]; unfold known; omega
    obtain ⟨hs, hev⟩ := HP.out.1 hk
    have ht : w4 big (sums big x s0 s1 s2 s3 4) 0 = 3 := by rw [HT.out]; exact h3
    unfold paySize at hs
    rw [ht] at hs
    clear hk ht
    subst hev
    have hs' : sz = if x 50 = 0 then s3 else w8 big x 96 := by
      rw [sums_50, sums_32, sums_far8 _ _ _ _ _ _ 96 (by omega)] at hs; exact hs
    clear hs
    by_cases hz : x 50 = 0
    · rw [if_pos hz] at hs'
      rw [hz] at c50
      clear hz
      subst hs'
      go_wp2_with fail
      go_ret
      exact ⟨rfl, HB4.out.bel⟩
    · rw [if_neg hz] at hs'
      have hz' : (x 50 != 0) = true := by simpa using hz
      clear hz
      subst hs'
      go_wp2_with (first
        | refine wpList_load_row rfl 22 _ rfl w.heap.size rfl 22 arr (0, 0) _ HB4.out.a Tryf.underlying22 rfl Hsz.out ?_)
      refine (zword8 big arr x 96 w4' (by omega) Ha.out Hx.out).mono ?_
      rintro e w5 ⟨rfl, hb5⟩
      go_wp2_with fail
      go_ret
      exact ⟨rfl, (HB4.out.next HB4.out.sz hb5).bel⟩
  by_cases h7 : w4 big x 0 = 7
  · have hk : known (w4 big (sums big x s0 s1 s2 s3 4) 0) := by rw [HT.out]; unfold known; omega
    obtain ⟨hs, hev⟩ := HP.out.1 hk
    have ht : w4 big (sums big x s0 s1 s2 s3 4) 0 = 7 := by rw [HT.out]; exact h7
    unfold paySize at hs
    rw [ht] at hs
    clear hk ht
    subst hev
    have hs' : sz = if w8 big x 40 = 0 then s1 else w8 big x 40 := by
      rw [sums_16, sums_far8 _ _ _ _ _ _ 40 (by omega)] at hs; exact hs
    clear hs
    by_cases hz : w8 big x 40 = 0
    · rw [if_pos hz] at hs'
      replace hs' := hs'.symm
      subst hs'
      go_wp2_with (first
        | refine wpList_load_row rfl 22 _ rfl w.heap.size rfl 22 arr (0, 0) _ HB4.out.a Tryf.underlying22 rfl Hsz.out ?_)
      refine (zword8 big arr x 40 w4' (by omega) Ha.out Hx.out).mono ?_
      rintro e w5 ⟨rfl, hb5⟩
      have c1' : w5.cell? ⟨w.heap.size + 1, 1, none⟩ = some (.int .u64 s1) := cell_of_row w5 _ 1 _ _ _ (HB4.out.next HB4.out.sz hb5).c
      go_wp2_with fail
      go_ret
      exact ⟨rfl, (HB4.out.next HB4.out.sz hb5).bel⟩
    · rw [if_neg hz] at hs'
      have hz' : (w8 big x 40 == 0) = false := by simpa using hz
      clear hz
      subst hs'
      go_wp2_with (first
        | refine wpList_load_row rfl 22 _ rfl w.heap.size rfl 22 arr (0, 0) _ HB4.out.a Tryf.underlying22 rfl Hsz.out ?_)
      refine (zword8 big arr x 40 w4' (by omega) Ha.out Hx.out).mono ?_
      rintro e w5 ⟨rfl, hb5⟩
      go_wp2_with fail
      go_ret
      exact ⟨rfl, (HB4.out.next HB4.out.sz hb5).bel⟩
  by_cases h8 : w4 big x 0 = 8
  · have hk : known (w4 big (sums big x s0 s1 s2 s3 4) 0) := by rw [HT.out]; unfold known; omega
    obtain ⟨hs, hev⟩ := HP.out.1 hk
    have ht : w4 big (sums big x s0 s1 s2 s3 4) 0 = 8 := by rw [HT.out]; exact h8
    unfold paySize at hs
    rw [ht] at hs
    clear hk ht
    subst hev
    have hs' : sz = rnd (w4 big x 52) := by
      rw [sums_far4 _ _ _ _ _ _ 52 (by omega)] at hs; exact hs
    clear hs
    subst hs'
    have hh := w4_in big x 52 Hx.out
    go_wp2_with (first
      | refine wpList_load_row rfl 22 _ rfl w.heap.size rfl 22 arr (0, 0) _ HB4.out.a Tryf.underlying22 rfl Hsz.out ?_)
    refine (zword4 big arr x 52 w4' (by omega) Ha.out Hx.out).mono ?_
    rintro e w5 ⟨rfl, hb5⟩
    go_wp2_with fail
    refine (round8_any _ w5 hh.1 hh.2).mono ?_
    rintro e w6 ⟨rfl, hw⟩
    replace hw := hw.symm
    subst hw
    go_wp2_with fail
    go_ret
    exact ⟨rfl, (HB4.out.next HB4.out.sz hb5).bel⟩
  have hk : ¬ known (w4 big (sums big x s0 s1 s2 s3 4) 0) := by rw [HT.out]; unfold known; omega
  obtain ⟨hs, b, hev⟩ := HP.out.2 hk
  subst hs
  subst hev
  have e5 : (w4 big x 0 == 5) = false := by simpa using h5
  have e2 : (w4 big x 0 == 2) = false := by simpa using h2
  have e4 : (w4 big x 0 == 4) = false := by simpa using h4
  have e6 : (w4 big x 0 == 6) = false := by simpa using h6
  have e9 : (w4 big x 0 == 9) = false := by simpa using h9
  have e10 : (w4 big x 0 == 10) = false := by simpa using h10
  have e1 : (w4 big x 0 == 1) = false := by simpa using h1
  have e3 : (w4 big x 0 == 3) = false := by simpa using h3
  have e7 : (w4 big x 0 == 7) = false := by simpa using h7
  have e8 : (w4 big x 0 == 8) = false := by simpa using h8
  clear hk h5 h2 h4 h6 h9 h10 h1 h3 h7 h8
  go_wp2_with fail
  go_ret
  exact ⟨rfl, HB4.out.bel⟩
end Go.Proofs.Qxb6614172aFmt.Pos
