/-
  By the prover: THE WALK of FnPositionAcrossSetters.
-/
import Derived.Test.Qxb6614172aPosFacts
namespace Go.Proofs.Qxb6614172a.Pos
open Go.RowKit Go.Deep

/-- The boxed parameter lies where it was laid; what was there is as it was. -/
structure Bo (w : World) (A : Obj) (W : World) : Prop where
  a : W.heap[w.heap.size]? = some A
  bel : Below w.heap.size w W
  sz : w.heap.size + 1 ≤ W.heap.size
theorem Bo.start (w : World) (A : Obj) : Bo w A (w.alloc A) := ⟨heap_alloc_new _ _, (Below.refl _ _).alloc (Nat.le_refl _) _, by simp⟩
theorem Bo.next {w W W' : World} {A : Obj} {B : Nat} (h : Bo w A W) (hB : w.heap.size + 1 ≤ B) (hb : Below B W W') : Bo w A W' :=
  ⟨(hb.block _ (by omega)).trans h.a, h.bel.trans (hb.mono (by omega)), Nat.le_trans h.sz hb.size⟩

/-- The load of a whole row under a guard that says yes. -/
theorem wpList_load_want {P : Program} {ops : Array Oper} {rest : List Oper} {o : Oper} {a : Act} {w : World} {Q : Exit → Act → World → Prop} (hw : Region.wanted o (yielded ops a.tmps) = true) (ty : TypeId) (x : Operand) (ho : o.op = .load ty x)
    (g : Nat) (hx : a.eval x = .pointer (some ⟨g, 0, none⟩)) (t : TypeId) (cs : Array Value) (fr : Nat × Nat) (d : TypeDesc) (hg : w.heap[g]? = some (.cells cs t fr))
    (hu : P.underlying ty = some d) (hd : (match d with | .struct _ | .array _ _ => true | _ => false) = true) (hi : (P.info? ty).map (·.size) = some cs.size)
    (h : wpList P ops Q rest (a.put o.dst (.agg cs)) w) : wpList P ops Q (o :: rest) a w :=
  BigFrame.wpList_want hw fun _ hK => wp_load_row ty x ho g hx t cs fr d hg hu hd hi (hK _ _ h)

def y1 (big : Bool) (x : Nat → Int) (n : Int) : Nat → Int := put4 big x 4 n
def y2 (big : Bool) (x : Nat → Int) (n u : Int) : Nat → Int := put8 big (y1 big x n) 16 (feat big (y1 big x n) u)
theorem y1_16 (big : Bool) (x : Nat → Int) (n : Int) : w8 big (y1 big x n) 16 = w8 big x 16 := w8_put4_far _ _ _ _ _ (by omega)
theorem y2_0 (big : Bool) (x : Nat → Int) (n u : Int) : w4 big (y2 big x n u) 0 = w4 big x 0 := by
  unfold y2 y1; rw [w4_put8_far _ _ _ _ _ (by omega), w4_put4_far _ _ _ _ _ (by omega)]
theorem y2_8 (big : Bool) (x : Nat → Int) (n u : Int) : w8 big (y2 big x n u) 8 = w8 big x 8 := by
  unfold y2 y1; rw [w8_put8_far _ _ _ _ _ (by omega), w8_put4_far _ _ _ _ _ (by omega)]
theorem y2_24 (big : Bool) (x : Nat → Int) (n u : Int) : w8 big (y2 big x n u) 24 = w8 big x 24 := by
  unfold y2 y1; rw [w8_put8_far _ _ _ _ _ (by omega), w8_put4_far _ _ _ _ _ (by omega)]
theorem y2_16 (big : Bool) (x : Nat → Int) (n u : Int) : w8 big (y2 big x n u) 16 = bits BinOp.or IntKind.u64 (IntKind.u64.wrap (u * 4)) (bits BinOp.and IntKind.u64 (w8 big x 16) 3) := by
  unfold y2; rw [w8_put8_same]; unfold feat; rw [y1_16]
theorem y2_O (big : Bool) (x : Nat → Int) (n u : Int) : posO big (y2 big x n u) = posO big x := by
  unfold posO; rw [y2_0, y2_8]
theorem y2_F (big : Bool) (x : Nat → Int) (n u : Int) : posF big (y2 big x n u) = if cls (w4 big x 0) = 1 then w8 big x 24 else if cls (w4 big x 0) = 2 then bits BinOp.or IntKind.u64 (IntKind.u64.wrap (u * 4)) (bits BinOp.and IntKind.u64 (w8 big x 16) 3) else 0 := by
  unfold posF; rw [y2_0, y2_24, y2_16]
theorem payload_any (big : Bool) (x : Nat → Int) (p : Nat) (u : Int) (w : World) (h0 : 0 ≤ u) (h1 : u < 4294967296) (hR : Rec big x p w) :
    Calls Try.prog 9 #[.pointer (some ⟨p, 0, none⟩), .int .u32 u] w fun e w' => e = .returned (.tuple #[]) ∧ Rec big (y1 big x u) p w' ∧ Below p w w' := by
  cases big
  · exact payload_le x p u w h0 h1 hR
  · exact payload_be x p u w h0 h1 hR
theorem features_any (big : Bool) (x : Nat → Int) (p : Nat) (n u : Int) (w : World) (hx : ∀ i, isByte (y1 big x n i)) (hR : Rec big (y1 big x n) p w) :
    Calls Try.prog 10 #[.pointer (some ⟨p, 0, none⟩), .int .u64 u] w fun e w' => e = .returned (.tuple #[]) ∧ Rec big (y2 big x n u) p w' ∧ Below p w w' := by
  cases big
  · exact features_le _ p u w hx hR
  · exact features_be _ p u w hx hR

set_option maxHeartbeats 1000000 in
theorem lawB (arr : Array Value) (big : Bool) (x : Nat → Int) (n u : Int) (w : World) (hn : arr.size = 312) (ha : ∀ i, i < 312 → arr[i]? = some (.int .u8 (x i))) (hx : ∀ i, isByte (x i))
    (n0 : 0 ≤ n) (n1 : n < 4294967296) :
    Calls Try.prog 6 #[.agg arr, .bool big, .int .u32 n, .int .u64 u] w fun e w' => e = .returned (.bool true) ∧ Below w.heap.size w w' := by
  have hsz : (Try.prog.info? 22).map (·.size) = some arr.size := by rw [Try.size22, hn]
  have Hsz := hide hsz
  have Hn := hide hn
  have Ha := hide ha
  have Hx := hide hx
  have Hy1 := hide (show ∀ i, isByte (y1 big x n i) from fun i => byte_put4 big x 4 n hx n0 n1 i)
  have Hy2 := hide (show ∀ i, isByte (y2 big x n u i) from fun i => byte_put8 big _ 16 _ Hy1.out (feat_in _ _ _) i)
  have hc := cls_cases (w4 big x 0)
  have HC := hide hc
  clear hsz hn ha hx hc
  obtain ⟨po, hpo⟩ : ∃ po, po = posO big x := ⟨_, rfl⟩
  obtain ⟨pf, hpf⟩ : ∃ pf, pf = posF big x := ⟨_, rfl⟩
  obtain ⟨pg, hpg⟩ : ∃ pg, pg = posF big (y2 big x n u) := ⟨_, rfl⟩
  obtain ⟨ob, hob⟩ : ∃ ob, ob = w8 big x 8 := ⟨_, rfl⟩
  obtain ⟨t, ht⟩ : ∃ t, t = w4 big x 0 := ⟨_, rfl⟩
  obtain ⟨k, hk⟩ : ∃ k, k = cls t := ⟨_, rfl⟩
  have HPO := hide hpo
  have HPF := hide hpf
  have HPG := hide hpg
  have HOB := hide hob
  have HT := hide ht
  have HK := hide hk
  clear hpo hpf hpg hob ht hk
  go_enter Try.func6, Try.ntmps6
  go_wp2_with (first
    | refine wpList_load_row rfl 22 _ rfl w.heap.size rfl 22 arr (0, 0) _ (heap_alloc_new _ _) Try.underlying22 rfl Hsz.out ?_)
  refine (rec_any arr big x _ Hn.out Ha.out).mono ?_
  rintro e w1 ⟨p, rfl, hp, hR1, hb1⟩
  rw [World.size_alloc] at hp
  have B1 := (Bo.start w _).next (by simp) hb1
  have HR1 := hide hR1
  have HB1 := hide B1
  clear hR1 hb1 B1
  go_wp2_with fail
  refine (position_any big x p w1 Hx.out HR1.out).mono ?_
  rintro e w2 ⟨rfl, hb2⟩
  rw [← HPO.out, ← HPF.out]
  have B2 := HB1.out.next HB1.out.sz hb2
  have HB2 := hide B2
  have HR2 := hide (HR1.out.below hb2)
  clear hb2 B2
  go_wp2_with fail
  refine (payload_any big x p n w2 n0 n1 HR2.out).mono ?_
  rintro e w3 ⟨rfl, hR3, hb3⟩
  have B3 := HB2.out.next (by omega) hb3
  have HB3 := hide B3
  have HR3 := hide hR3
  clear hb3 B3 hR3
  go_wp2_with fail
  refine (features_any big x p n u w3 Hy1.out HR3.out).mono ?_
  rintro e w4' ⟨rfl, hR4, hb4⟩
  have B4 := HB3.out.next (by omega) hb4
  have HB4 := hide B4
  have HR4 := hide hR4
  clear hb4 B4 hR4
  go_wp2_with fail
  refine (position_any big _ p w4' Hy2.out HR4.out).mono ?_
  rintro e w5 ⟨rfl, hb5⟩
  rw [y2_O, ← HPO.out, ← HPG.out]
  have B5 := HB4.out.next HB4.out.sz hb5
  have HB5 := hide B5
  clear hb5 B5
  go_wp2_with (first
    | refine wpList_load_row rfl 22 _ rfl w.heap.size rfl 22 arr (0, 0) _ HB5.out.a Try.underlying22 rfl Hsz.out ?_)
  refine (zword8 big arr x 8 w5 (by omega) Ha.out Hx.out).mono ?_
  rintro e w6 ⟨rfl, hb6⟩
  rw [← HOB.out]
  have B6 := HB5.out.next HB5.out.sz hb6
  have HB6 := hide B6
  clear hb6 B6
  go_wp2_with (first
    | refine wpList_load_row rfl 22 _ rfl w.heap.size rfl 22 arr (0, 0) _ HB6.out.a Try.underlying22 rfl Hsz.out ?_)
  refine (zword4 big arr x 0 w6 (by omega) Ha.out Hx.out).mono ?_
  rintro e w7 ⟨rfl, hb7⟩
  rw [← HT.out]
  have B7 := HB6.out.next HB6.out.sz hb7
  have HB7 := hide B7
  clear hb7 B7
  go_wp2_with fail
  refine (cls_any t w7).mono ?_
  rintro e w8' ⟨rfl, hw⟩
  replace hw := hw.symm
  subst hw
  rw [← HK.out]
  have HK2 : Hid (k = cls (w4 big x 0)) := hide (by rw [HK.out, HT.out])
  have G := HC.out
  rw [← HK2.out] at G
  have eF : pf = if k = 1 then w8 big x 24 else if k = 2 then w8 big x 16 else 0 := by rw [HPF.out, HK2.out]; rfl
  have eO : po = if k = 0 then 0 else ob := by rw [HPO.out, HK2.out, HOB.out]; rfl
  have eG : pg = if k = 1 then w8 big x 24 else if k = 2 then bits BinOp.or IntKind.u64 (IntKind.u64.wrap (u * 4)) (bits BinOp.and IntKind.u64 (w8 big x 16) 3) else 0 := by rw [HPG.out, y2_F, HK2.out]
  rcases G with hk | hk | hk | hk
  · rw [hk] at eF eO eG
    simp only [if_true] at eF eG
    simp only [show ¬ ((1 : Int) = 0) by omega, if_false] at eO
    obtain ⟨z, hz⟩ : ∃ z, z = w8 big x 24 := ⟨_, rfl⟩
    rw [← hz] at eF eG
    have HZ := hide hz
    clear hz
    go_wp2_with (first
      | refine wpList_load_want rfl 22 _ rfl w.heap.size rfl 22 arr (0, 0) _ HB7.out.a Try.underlying22 rfl Hsz.out ?_
      | (go_at_call 14; refine (zword8 big arr x 24 w7 (by omega) Ha.out Hx.out).mono ?_; rintro e w9 ⟨rfl, hb9⟩; rw [← HZ.out]))
    go_ret
    exact ⟨rfl, HB7.out.bel.trans (hb9.mono (Nat.le_of_succ_le HB7.out.sz))⟩
  · rw [hk] at eF eO eG
    simp only [show ¬ ((2 : Int) = 1) by omega, show ¬ ((2 : Int) = 0) by omega, if_true, if_false] at eF eO eG
    obtain ⟨z, hz⟩ : ∃ z, z = w8 big x 16 := ⟨_, rfl⟩
    rw [← hz] at eF eG
    have HZ := hide hz
    clear hz
    go_wp2_with (first
      | refine wpList_load_want rfl 22 _ rfl w.heap.size rfl 22 arr (0, 0) _ HB7.out.a Try.underlying22 rfl Hsz.out ?_
      | (go_at_call 14; refine (zword8 big arr x 16 w7 (by omega) Ha.out Hx.out).mono ?_; rintro e w9 ⟨rfl, hb9⟩; rw [← HZ.out]))
    go_ret
    exact ⟨rfl, HB7.out.bel.trans (hb9.mono (Nat.le_of_succ_le HB7.out.sz))⟩
  · rw [hk] at eF eO eG
    simp only [show ¬ ((3 : Int) = 0) by omega, show ¬ ((3 : Int) = 1) by omega, show ¬ ((3 : Int) = 2) by omega, if_false] at eF eO eG
    go_wp2
    go_ret
    exact ⟨rfl, HB7.out.bel⟩
  · rw [hk] at eF eO eG
    simp only [show ¬ ((0 : Int) = 1) by omega, show ¬ ((0 : Int) = 2) by omega, if_false, if_true] at eF eO eG
    go_wp2
    go_ret
    exact ⟨rfl, HB7.out.bel⟩
end Go.Proofs.Qxb6614172a.Pos
