/-
  By the prover: THE WALK of FnPositionAtSetChecksum.
-/
import Derived.Test.Qxb6614172aPosFacts
namespace Go.Proofs.Qxb6614172a.Pos
open Go.RowKit Go.Deep

/-- The two boxed parameters lie where they were laid; what was there is as it was. -/
structure Bx (w : World) (A C : Obj) (W : World) : Prop where
  a : W.heap[w.heap.size]? = some A
  c : W.heap[w.heap.size + 1]? = some C
  bel : Below w.heap.size w W
  sz : w.heap.size + 2 ≤ W.heap.size

theorem Bx.start (w : World) (A C : Obj) : Bx w A C ((w.alloc A).alloc C) :=
  ⟨heap_alloc2_old _ _ _, heap_alloc2_new _ _ _, ((Below.refl _ _).alloc (Nat.le_refl _) _).alloc (by simp) _, by simp⟩
theorem Bx.next {w W W' : World} {A C : Obj} {B : Nat} (h : Bx w A C W) (hB : w.heap.size + 2 ≤ B) (hb : Below B W W') : Bx w A C W' :=
  ⟨(hb.block _ (by omega)).trans h.a, (hb.block _ (by omega)).trans h.c, h.bel.trans (hb.mono (by omega)), Nat.le_trans h.sz hb.size⟩

set_option maxHeartbeats 1000000 in
theorem lawA (arr : Array Value) (big : Bool) (x : Nat → Int) (s0 s1 s2 s3 : Int) (w : World) (hn : arr.size = 312) (ha : ∀ i, i < 312 → arr[i]? = some (.int .u8 (x i))) (hx : ∀ i, isByte (x i))
    (h0 : isU64 s0) (h1 : isU64 s1) (h2 : isU64 s2) (h3 : isU64 s3) :
    Calls Try.prog 5 #[.agg arr, .bool big, .agg #[.int .u64 s0, .int .u64 s1, .int .u64 s2, .int .u64 s3]] w fun e w' => e = .returned (.bool true) ∧ Below w.heap.size w w' := by
  have hsz : (Try.prog.info? 22).map (·.size) = some arr.size := by rw [Try.size22, hn]
  have Hsz := hide hsz
  have Hn := hide hn
  have Ha := hide ha
  have Hx := hide hx
  have Hc := hide (fun p W (hR : Rec big x p W) => checksum_any big x p s0 s1 s2 s3 W h0 h1 h2 h3 hR)
  have hy := sums_byte big x s0 s1 s2 s3 hx h0 h1 h2 h3
  have Hy := hide hy
  have e1 := sums_posO big x s0 s1 s2 s3
  have e2 := sums_posF big x s0 s1 s2 s3
  have hc := cls_cases (w4 big x 0)
  clear hsz hn ha hx hy
  obtain ⟨y, Y⟩ : ∃ y, y = sums big x s0 s1 s2 s3 4 := ⟨_, rfl⟩
  rw [← Y] at e1 e2
  have HY := hide Y
  clear Y
  obtain ⟨po, hpo⟩ : ∃ po, po = posO big y := ⟨_, rfl⟩
  obtain ⟨pf, hpf⟩ : ∃ pf, pf = posF big y := ⟨_, rfl⟩
  obtain ⟨t, ht⟩ : ∃ t, t = w4 big x 0 := ⟨_, rfl⟩
  rw [← hpo, ← ht] at e1
  rw [← hpf, ← ht] at e2
  rw [← ht] at hc
  obtain ⟨k, hk⟩ : ∃ k, k = cls t := ⟨_, rfl⟩
  rw [← hk] at e1 e2 hc
  have HK := hide hk
  have HO := hide hpo
  have HF := hide hpf
  have HT := hide ht
  clear hk hpo hpf ht h0 h1 h2 h3
  have E1 := hide e1
  have E2 := hide e2
  have HC := hide hc
  clear e1 e2 hc
  go_enter Try.func5, Try.ntmps5
  go_wp2_with (first
    | refine wpList_load_row rfl 22 _ rfl w.heap.size rfl 22 arr (0, 0) _ (heap_alloc2_old _ _ _) Try.underlying22 rfl Hsz.out ?_)
  refine (rec_any arr big x _ Hn.out Ha.out).mono ?_
  rintro e w1 ⟨p, rfl, hp, hR1, hb1⟩
  rw [World.size_alloc, World.size_alloc] at hp
  have B1 := (Bx.start w _ _).next (by simp) hb1
  have HR1 := hide hR1
  have HB1 := hide B1
  have c0 : w1.cell? ⟨w.heap.size + 1, 0, none⟩ = some (.int .u64 s0) := cell_of_row w1 _ 0 _ _ _ B1.c
  have c1 : w1.cell? ⟨w.heap.size + 1, 1, none⟩ = some (.int .u64 s1) := cell_of_row w1 _ 1 _ _ _ B1.c
  have c2 : w1.cell? ⟨w.heap.size + 1, 2, none⟩ = some (.int .u64 s2) := cell_of_row w1 _ 2 _ _ _ B1.c
  have c3 : w1.cell? ⟨w.heap.size + 1, 3, none⟩ = some (.int .u64 s3) := cell_of_row w1 _ 3 _ _ _ B1.c
  clear hR1 hb1 B1
  go_wp2_with fail
  refine (Hc.out p w1 HR1.out).mono ?_
  rintro e w2 ⟨rfl, hR2, hb2⟩
  rw [← HY.out] at hR2
  have B2 := HB1.out.next (by omega) hb2
  have HR2 := hide hR2
  have HB2 := hide B2
  clear hR2 hb2 B2 c0 c1 c2 c3
  go_wp2_with fail
  refine (position_any big y p w2 (by rw [HY.out]; exact Hy.out) HR2.out).mono ?_
  rintro e w3 ⟨rfl, hb3⟩
  rw [← HO.out, ← HF.out]
  have B3 := HB2.out.next HB2.out.sz hb3
  have HB3 := hide B3
  clear hb3 B3
  go_wp2_with (first
    | refine wpList_load_row rfl 22 _ rfl w.heap.size rfl 22 arr (0, 0) _ HB3.out.a Try.underlying22 rfl Hsz.out ?_)
  refine (zword4 big arr x 0 w3 (by omega) Ha.out Hx.out).mono ?_
  rintro e w4' ⟨rfl, hb4⟩
  rw [← HT.out]
  have B4 := HB3.out.next HB3.out.sz hb4
  have HB4 := hide B4
  have c0 : w4'.cell? ⟨w.heap.size + 1, 0, none⟩ = some (.int .u64 s0) := cell_of_row w4' _ 0 _ _ _ B4.c
  have c1 : w4'.cell? ⟨w.heap.size + 1, 1, none⟩ = some (.int .u64 s1) := cell_of_row w4' _ 1 _ _ _ B4.c
  have c2 : w4'.cell? ⟨w.heap.size + 1, 2, none⟩ = some (.int .u64 s2) := cell_of_row w4' _ 2 _ _ _ B4.c
  clear hb4 B4
  go_wp2_with fail
  refine (cls_any t w4').mono ?_
  rintro e w5 ⟨rfl, hw⟩
  replace hw := hw.symm
  subst hw
  rw [← HK.out]
  rcases HC.out with hk | hk | hk | hk
  · have o1 : po = s0 := by rw [E1.out, hk]; rfl
    have o2 : pf = s2 := by rw [E2.out, hk]; rfl
    go_wp2
    go_ret
    exact ⟨rfl, HB4.out.bel⟩
  · have o1 : po = s0 := by rw [E1.out, hk]; rfl
    have o2 : pf = s1 := by rw [E2.out, hk]; rfl
    go_wp2
    go_ret
    exact ⟨rfl, HB4.out.bel⟩
  · have o1 : po = s0 := by rw [E1.out, hk]; rfl
    have o2 : pf = 0 := by rw [E2.out, hk]; rfl
    go_wp2
    go_ret
    exact ⟨rfl, HB4.out.bel⟩
  · have o1 : po = 0 := by rw [E1.out, hk]; rfl
    have o2 : pf = 0 := by rw [E2.out, hk]; rfl
    go_wp2
    go_ret
    exact ⟨rfl, HB4.out.bel⟩
end Go.Proofs.Qxb6614172a.Pos
