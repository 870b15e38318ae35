/-
  By the prover: THE WALK of zzBuild.
-/
import Derived.Test.Qxb6613654aFmtDefsBuildA
import Derived.Deep.QuietTactic
import Derived.BigQuiet
import Derived.RegionTactic
import Derived.Deep.OwnRows
import Derived.Deep.RegionWith
namespace Go.Proofs.Qxb6613654aFmt.Defs
open Go.RowKit Go.Maps Go.Deep

/-- What the outer loop keeps: i definitions so far. -/
structure BI (D : Dat) (mb i : Nat) (w0 : World) (M : DataW Unit) (fl : Nat → Nat) (w : World) : Prop where
  own : w.ownsMap Tryf.prog 9 elemR mb i M
  is : MapIs i D.S fl M
  def_ : ∀ k, k < i → ∃ r p, w.heap[fl k]? = some (.cells #[.string (D.S k), .map (some r), .map (some p)] 53) ∧ r ≠ mb ∧ ∃ nn R, w.ownsMap Tryf.prog 9 elemR r nn R
  bel : RowKit.Below w0.heap.size w0 w

/-- What zzBuild hands back. -/
def Built (D : Dat) (n : Nat) (e : Ending) (w : World) : Prop :=
  ∃ mo ok, e = .returned (.tuple #[.map mo, .bool ok]) ∧ (ok = true → (n = 0 ∧ mo = none) ∨ (0 < n ∧ ∃ mb nn M fl, mo = some mb ∧ w.ownsMap Tryf.prog 9 elemR mb nn M ∧ MapIs n D.S fl M ∧ ∀ i, i < n → w.cell? ⟨fl i, 0, none⟩ = some (.string (D.S i))))

theorem built_false (D : Dat) (n : Nat) (w : World) : Built D n (.returned (.tuple #[.map none, .bool false])) w := ⟨none, false, rfl, fun h => by cases h⟩

/-- The definition's own world: two new maps, and the block that leads to them. -/
abbrev defW (s : ByteArray) (w : World) : World := ((w.alloc (.map #[] 0)).alloc (.map #[] 0)).alloc (.cells #[.string s, .map (some w.heap.size), .map (some (w.heap.size + 1))] 53)

theorem defW_below (s : ByteArray) (w : World) : RowKit.Below w.heap.size w (defW s w) := (((RowKit.Below.refl _ _).alloc (Nat.le_refl _) _).alloc (by simp) _).alloc (by simp; omega) _
theorem defW_map (s : ByteArray) (w : World) : (defW s w).ownsMap Tryf.prog 9 elemR w.heap.size 0 (.map []) := ((World.ownsMap_made w Tryf.prog 9 elemR).alloc _).alloc _
theorem defW_blk (s : ByteArray) (w : World) : (defW s w).heap[w.heap.size + 2]? = some (.cells #[.string s, .map (some w.heap.size), .map (some (w.heap.size + 1))] 53) := by
  have := heap_alloc_new ((w.alloc (.map #[] 0)).alloc (.map #[] 0)) (.cells #[.string s, .map (some w.heap.size), .map (some (w.heap.size + 1))] 53)
  simpa using this

theorem Tryf.info72 : (Tryf.prog.info? 72).map (fun i => (i.zero, i.size, i.bytes)) = some (some (.agg #[.string ⟨#[]⟩, .bool false, .string ⟨#[]⟩]), 3, 40) := by kernel_rfl

/-- 'make([]SubjectType, n)'. -/
theorem make_types (n : Nat) (hn : n ≤ 4096) : ∃ C : Array Value, C.size = n * 3 ∧ ∀ w : World, (Instr.makeSlice 71 (.int .i64 (n : Int)) (.int .i64 (n : Int))).run Tryf.prog w = .ok (.slice (some ⟨w.heap.size, 0, none⟩) n n) (w.alloc (.cells C 72)) := by
  obtain ⟨i, hi, hz0, hz1, hz2⟩ := info_parts Tryf.info72
  refine ⟨madeCells (Value.agg #[.string ⟨#[]⟩, .bool false, .string ⟨#[]⟩]).cells (n * 3), by simp [size_madeCells], fun w => ?_⟩
  have h := run_make (P := Tryf.prog) w 71 72 i _ Tryf.underlying71 hi hz0 .i64 .i64 n n (by omega) (by omega) (by rw [hz2]; omega) (by omega)
  simpa [hz1] using h

/-- Three cells of a row, written one after the other. -/
theorem row3 (W : World) (tb o : Nat) (C : Array Value) (T : TypeId) (v0 v1 v2 : Value) (h : W.heap[tb]? = some (.cells C T)) :
    ∃ C' : Array Value, C'.size = C.size ∧ (((W.setCell ⟨tb, o, none⟩ v0).setCell ⟨tb, o + 1, none⟩ v1).setCell ⟨tb, o + 2, none⟩ v2).heap[tb]? = some (.cells C' T) := by
  have h1 := heap_setCell_same W tb o C T v0 h
  have h2 := heap_setCell_same _ tb (o + 1) _ T v1 h1
  have h3 := heap_setCell_same _ tb (o + 2) _ T v2 h2
  exact ⟨_, by simp, h3⟩

theorem row3_below {B tb o : Nat} {w W : World} (v0 v1 v2 : Value) (h : RowKit.Below B w W) (hB : B ≤ tb) : RowKit.Below B w (((W.setCell ⟨tb, o, none⟩ v0).setCell ⟨tb, o + 1, none⟩ v1).setCell ⟨tb, o + 2, none⟩ v2) :=
  ((h.setCell (p := ⟨tb, o, none⟩) hB v0).setCell (p := ⟨tb, o + 1, none⟩) hB v1).setCell (p := ⟨tb, o + 2, none⟩) hB v2

theorem cells3 {W : World} {tb o : Nat} {C : Array Value} {T : TypeId} (h : W.heap[tb]? = some (.cells C T)) (ho : o + 2 < C.size) :
    (∃ v, W.cell? ⟨tb, o, none⟩ = some v) ∧ (∃ v, W.cell? ⟨tb, o + 1, none⟩ = some v) ∧ (∃ v, W.cell? ⟨tb, o + 2, none⟩ = some v) ∧ W.frozen? ⟨tb, o, none⟩ = false ∧ W.frozen? ⟨tb, o + 1, none⟩ = false ∧ W.frozen? ⟨tb, o + 2, none⟩ = false := by
  refine ⟨?_, ?_, ?_, frozen_of_row W tb _ _ _ h, frozen_of_row W tb _ _ _ h, frozen_of_row W tb _ _ _ h⟩
  all_goals (simp only [World.cell?, h]; rw [Array.getElem?_eq_getElem (by omega)]; exact ⟨_, rfl⟩)

theorem drewN_below (B : Nat) (w : World) (m : Nat) : RowKit.Below B w (w.drewN m) := ⟨rfl, rfl, rfl, Nat.le_refl _, fun _ _ => rfl⟩

theorem blk_ne {w : World} {a b : Nat} {es : Array MapEntry} {clock : Nat} {C : Array Value} {T : TypeId} {fr : Nat × Nat} (h1 : w.heap[a]? = some (.map es clock)) (h2 : w.heap[b]? = some (.cells C T fr)) : b ≠ a := fun e => by
  subst e
  rw [h1] at h2
  cases h2

/-- One definition more. -/
theorem BI.step {D : Dat} {mb i j r0 : Nat} {w0 wo W0 wj w10 : World} {M R : DataW Unit} {fl : Nat → Nat} (hB : BI D mb i w0 M fl wo) (hmb : w0.heap.size ≤ mb) (hr0 : wo.heap.size = r0) (hW : RowKit.Below wo.heap.size wo W0) (hsz : W0.heap.size = r0 + 3)
    (hblk : W0.heap[r0 + 2]? = some (.cells #[.string (D.S i), .map (some r0), .map (some (r0 + 1))] 53)) (hbut : But r0 W0 wj) (hown2 : wj.ownsMap Tryf.prog 9 elemR r0 j R)
    (hhas : has M (.string (D.S i).data.toList) = false) (hown10 : w10.ownsMap Tryf.prog 9 elemR mb (i + 1) (M.put (.string (D.S i).data.toList) (ptrD (some (r0 + 2))))) (hg : wj.grownBy w10 (some mb)) (hbj : RowKit.Below w0.heap.size w0 wj) :
    BI D mb (i + 1) w0 (M.put (.string (D.S i).data.toList) (ptrD (some (r0 + 2)))) (fun k => if k = i then r0 + 2 else fl k) w10 := by
  have hmlt : mb < r0 := by have := hB.own.lt; omega
  have hgk : ∀ k o, wj.heap[k]? = some o → k ≠ mb → w10.heap[k]? = some o := fun k o h hne => (hg.block k (Array.getElem?_eq_some_iff.1 h).1 (by simpa using hne)).trans h
  refine ⟨hown10, hB.is.put _ hhas, fun k hk => ?_, ?_⟩
  · by_cases e : k = i
    · subst e
      simp only [if_true]
      refine ⟨r0, r0 + 1, hgk _ _ (hbut.blk hblk (by omega)) (by omega), by omega, j, R, ?_⟩
      exact hown2.kept hg (by simp; omega)
    · obtain ⟨r, p, h1, h2, nn, R', h3⟩ := hB.def_ k (by omega)
      simp only [e, if_false]
      have hl1 : fl k < r0 := by have := (Array.getElem?_eq_some_iff.1 h1).1; omega
      have hl2 : r < r0 := by have := h3.lt; omega
      have hne : fl k ≠ mb := by
        obtain ⟨es, clock, hm, _⟩ := hB.own
        exact blk_ne hm h1
      refine ⟨r, p, hgk _ _ (hbut.blk ((hW.block _ (by omega)).trans h1) (by omega)) hne, h2, nn, R', ?_⟩
      exact (hbut.owns (owns_below h3 hW) (by omega)).kept hg (by simpa using h2)
  · exact hbj.grown hg hbj.size (fun b hb => by cases hb; exact hmb)

set_option maxRecDepth 100000 in
set_option maxHeartbeats 1500000 in
theorem build_any (D : Dat) (a : Option Addr) (n c : Nat) (w : World) (hI : In D a n w) (hsm : Small D n) :
    Calls Tryf.prog 13 #[.slice a n c] w fun e w' => Built D n e w' ∧ RowKit.Below w.heap.size w w' := by
  have HI := hide hI
  have HSm := hide hsm
  have hn := hsm.1
  clear hI hsm
  by_cases h0 : n = 0
  · subst h0
    go_enter Tryf.func13, Tryf.ntmps13
    go_wp2
    go_ret2
    exact ⟨⟨none, true, rfl, fun _ => .inl ⟨rfl, rfl⟩⟩, RowKit.Below.refl _ _⟩
  have hn0 : 0 < n := by omega
  have hmm := @run_makeMap Tryf.prog
  have hnz : ((n : Int) == 0) = false := by simpa using h0
  go_enter Tryf.func13, Tryf.ntmps13
  go_wp2
  go_loopw [5] (fun i wr => ∃ (k : Nat) (M : DataW Unit) (fl : Nat → Nat), k ≤ n ∧ i = .int .i64 k ∧ BI D w.heap.size k w M fl wr) (fun i _ => n - (intOf i).toNat)
  case atStart => exact ⟨0, .map [], fun _ => 0, Nat.zero_le _, rfl, World.ownsMap_made w Tryf.prog 9 elemR, MapIs.empty _ _, fun k h => absurd h (by omega), (RowKit.Below.refl _ _).alloc (Nat.le_refl _) _⟩
  case round =>
    obtain ⟨i, M, fl, hi, rfl, hB⟩ := hrel
    by_cases hin : i < n
    · obtain ⟨b, off, rfl, hc⟩ := HI.out.defs hn0
      have hi0 : (0 : Int) ≤ (i : Int) := by omega
      have hi1 : (i : Int) < (n : Int) := by omega
      have c0 := cell_later hB.bel (hc i hin).1
      have c1 := cell_later hB.bel (hc i hin).2
      have hname := isName_fn (D.S i) wr (HI.out.S_le i hin)
      obtain ⟨x, hx, hlook⟩ := look_uni Tryf.underlying39 Tryf.zero42 hB.own (D.S i) (HI.out.S_le i hin)
      have hlook' := hlook wr rfl
      obtain ⟨ra, era⟩ : ∃ x, D.ra i = x := ⟨_, rfl⟩
      rw [era] at c1
      have Hra := hide era
      have HB := hide hB
      have Hx := hide hx
      clear hc era hB hx hlook
      cases hok : nameOk (D.S i)
      · rw [hok] at hname
        go_wp2_with (go_at_call 19; refine hname.mono ?_; rintro e w1 ⟨rfl, hw⟩; replace hw := hw.symm; subst hw)
        go_ret2
        exact ⟨built_false _ _ _, HB.out.bel⟩
      rw [hok] at hname
      cases x with
      | some f =>
        go_wp2_with (go_at_call 19; refine hname.mono ?_; rintro e w1 ⟨rfl, hw⟩; replace hw := hw.symm; subst hw)
        go_ret2
        exact ⟨built_false _ _ _, HB.out.bel⟩
      | none =>
        have d1 : (((wr.alloc (.map #[] 0)).alloc (.map #[] 0)).alloc (.cells #[.string (D.S i), .map (some wr.heap.size), .map (some (wr.heap.size + 1))] 53)).cell? ⟨b, off + i * 2 + 1, none⟩ = some (.slice ra (D.rn i) (D.rc i)) := cell_later (defW_below (D.S i) wr) c1
        have hrn : D.rn i ≤ 4096 := (HSm.out.2 i hin).1
        go_wp2_with (go_at_call 19; refine hname.mono ?_; rintro e w1 ⟨rfl, hw⟩; replace hw := hw.symm; subst hw)
        have hW1 := defW_below (D.S i) wr
        have hW2 := defW_map (D.S i) wr
        have hW3 := defW_blk (D.S i) wr
        unfold defW at hW1 hW2 hW3
        obtain ⟨W0, hW0⟩ : ∃ x, (((wr.alloc (.map #[] 0)).alloc (.map #[] 0)).alloc (.cells #[.string (D.S i), .map (some wr.heap.size), .map (some (wr.heap.size + 1))] 53)) = x := ⟨_, rfl⟩
        have hW4 : W0.heap.size = wr.heap.size + 3 := by rw [← hW0]; simp
        rw [hW0] at hW1 hW2 hW3 d1 ⊢
        have HW := hide (And.intro hW1 (And.intro hW2 hW3))
        have hr1 : w.heap.size ≤ wr.heap.size := HB.out.bel.size
        obtain ⟨r0, hr0⟩ : ∃ r, wr.heap.size = r := ⟨_, rfl⟩
        rw [hr0] at HW hW4 hr1 ⊢
        have HR0 := hide hr0
        clear hW0 hW1 hW2 hW3 d1 c0 c1 hname hlook' hr0
        go_loopw [9] (fun i' wj => ∃ (j : Nat) (R : DataW Unit), j ≤ D.rn i ∧ i' = .int .i64 j ∧ wj.ownsMap Tryf.prog 9 elemR r0 j R ∧ But r0 W0 wj) (fun i' _ => D.rn i - (intOf i').toNat)
        case atStart => exact ⟨0, .map [], Nat.zero_le _, rfl, HW.out.2.1, But.refl _ _⟩
        case round =>
          obtain ⟨j, R, hj, rfl, hown2, hbut⟩ := hrel
          have hbj : RowKit.Below w.heap.size w wr := (HB.out.bel.trans (HW.out.1.mono hr1)).trans (hbut.toBelow hr1 (by omega))
          by_cases hjn : j < D.rn i
          · obtain ⟨b2, off2, e2, hc2⟩ := HI.out.rels i hin (by omega)
            rw [Hra.out] at e2
            subst e2
            have hj0 : (0 : Int) ≤ (j : Int) := by omega
            have hj1 : (j : Int) < (D.rn i : Int) := by omega
            have e0 := cell_later hbj (hc2 j hjn).1
            have e1 := cell_later hbj (hc2 j hjn).2
            have hblk := hbut.blk HW.out.2.2 (by omega)
            have e3 : wr.cell? ⟨r0 + 1 + 1, 1, none⟩ = some (.map (some r0)) := by simp [World.cell?, hblk]
            have hname2 := fun W => isName_fn (D.rs i j) W (HI.out.rs_le i j hin hjn)
            obtain ⟨x2, hx2, hlook2⟩ := look_uni Tryf.underlying50 Tryf.zero70 hown2 (D.rs i j) (HI.out.rs_le i j hin hjn)
            have hlook3 := fun m => hlook2 (wr.drewN m) rfl
            have htn : D.tn i j ≤ 4096 := (HSm.out.2 i hin).2 j hjn
            obtain ⟨ta, eta⟩ : ∃ x, D.ta i j = x := ⟨_, rfl⟩
            rw [eta] at e1
            have Hta := hide eta
            have HJ := hide (And.intro hown2 (And.intro hbut hbj))
            have HBlk := hide hblk
            clear hc2 eta hown2 hbut hbj hblk hlook2 hx2
            cases hok2 : nameOk (D.rs i j)
            · rw [hok2] at hname2
              go_wp2
              go_quiet ((go_at_call 19; exact Calls.quiet_of_same (hname2 _)))
              go_wp2
              go_ret2
              exact ⟨built_false _ _ _, HJ.out.2.2.trans (drewN_below _ _ _)⟩
            rw [hok2] at hname2
            cases x2 with
            | some f2 =>
              go_wp2
              go_quiet ((go_at_call 19; exact Calls.quiet_of_same (hname2 _)))
              go_wp2
              go_ret2
              exact ⟨built_false _ _ _, HJ.out.2.2.trans (drewN_below _ _ _)⟩
            | none =>
              by_cases ht0 : D.tn i j = 0
              · rw [ht0] at e1
                go_wp2
                go_quiet ((go_at_call 19; exact Calls.quiet_of_same (hname2 _)))
                go_wp2
                go_ret2
                exact ⟨built_false _ _ _, HJ.out.2.2.trans (drewN_below _ _ _)⟩
              · have ht1 : ((D.tn i j : Int) == 0) = false := by simpa using ht0
                go_wp2
                go_quiet ((go_at_call 19; exact Calls.quiet_of_same (hname2 _)))
                obtain ⟨w4, hw4⟩ : ∃ x, wr.drewN nq = x := ⟨_, rfl⟩
                have HJ4 : Hid (w4.ownsMap Tryf.prog 9 elemR r0 j R ∧ But r0 W0 w4 ∧ RowKit.Below w.heap.size w w4) := by
                  rw [← hw4]
                  exact ⟨HJ.out.1, HJ.out.2.1.below (drewN_below _ _ _), HJ.out.2.2.trans (drewN_below _ _ _)⟩
                have e14 : w4.cell? ⟨b2, off2 + j * 2 + 1, none⟩ = some (.slice ta (D.tn i j) (D.tc i j)) := by rw [← hw4]; exact e1
                have e04 : w4.cell? ⟨b2, off2 + j * 2, none⟩ = some (.string (D.rs i j)) := by rw [← hw4]; exact e0
                have e34 : w4.cell? ⟨r0 + 1 + 1, 1, none⟩ = some (.map (some r0)) := by rw [← hw4]; exact e3
                rw [hw4]
                clear hw4 HJ e0 e1 e3 hname2 hlook3 HBlk
                obtain ⟨C, hC, hmk⟩ := make_types (D.tn i j) htn
                go_wp2
                have h50 := heap_alloc_new w4 (.cells C 72)
                have h51 : RowKit.Below w4.heap.size w4 (w4.alloc (.cells C 72)) := (RowKit.Below.refl _ _).alloc (Nat.le_refl _) _
                have HT := hide (And.intro h50 h51)
                clear h50 h51 hmk
                go_loopw [11] (fun i' wk => ∃ (k : Nat) (C' : Array Value), k ≤ D.tn i j ∧ i' = .int .i64 k ∧ wk.heap[w4.heap.size]? = some (.cells C' 72) ∧ C'.size = D.tn i j * 3 ∧ RowKit.Below w4.heap.size w4 wk) (fun i' _ => D.tn i j - (intOf i').toNat)
                case atStart => exact ⟨0, C, Nat.zero_le _, rfl, HT.out.1, hC, HT.out.2⟩
                case round =>
                  obtain ⟨k, C', hk, rfl, hrowk, hCk, hbk⟩ := hrel
                  clear HT
                  by_cases hkn : k < D.tn i j
                  · obtain ⟨b3, off3, e3, hc3⟩ := HI.out.types i j hin hjn (by omega)
                    rw [Hta.out] at e3
                    subst e3
                    have hk0 : (0 : Int) ≤ (k : Int) := by omega
                    have hk1 : (k : Int) < (D.tn i j : Int) := by omega
                    have hbw := HJ4.out.2.2.trans (hbk.mono (HJ4.out.2.2.size))
                    have f0 := cell_later hbw (hc3 k hkn).1
                    have f1 := cell_later hbw (hc3 k hkn).2.1
                    have f2 := cell_later hbw (hc3 k hkn).2.2
                    have f3 := cell_later hbk e14
                    have hnT := fun W => isName_fn (D.ty i j k) W (HI.out.ty_le i j k hin hjn hkn)
                    have hnR := fun W => isName_fn (D.re i j k) W (HI.out.re_le i j k hin hjn hkn)
                    obtain ⟨wc, ewc⟩ : ∃ x, D.wc i j k = x := ⟨_, rfl⟩
                    rw [ewc] at f1
                    have hlt4 : w4.heap.size < wr.heap.size := (Array.getElem?_eq_some_iff.1 hrowk).1
                    have hX : (wr.alloc (.cells #[.string (D.ty i j k), .bool wc, .string (D.re i j k)] 69)).heap[w4.heap.size]? = some (.cells C' 72) := by rw [heap_alloc_old _ _ _ hlt4, hrowk]
                    obtain ⟨⟨v0, g0⟩, ⟨v1, g1⟩, ⟨v2, g2⟩, q0, q1, q2⟩ := cells3 (o := k * 3) hX (by omega)
                    have hbX : RowKit.Below w4.heap.size w4 (wr.alloc (.cells #[.string (D.ty i j k), .bool wc, .string (D.re i j k)] 69)) := hbk.alloc hbk.size _
                    obtain ⟨C2, hC2, hrow2⟩ := row3 (wr.alloc (.cells #[.string (D.ty i j k), .bool wc, .string (D.re i j k)] 69)) w4.heap.size (k * 3) C' 72 (.string (D.ty i j k)) (.bool wc) (.string (D.re i j k)) hX
                    have hb2X := row3_below (o := k * 3) (.string (D.ty i j k)) (.bool wc) (.string (D.re i j k)) hbX (Nat.le_refl _)
                    have g1' : ((wr.alloc (.cells #[.string (D.ty i j k), .bool wc, .string (D.re i j k)] 69)).setCell ⟨w4.heap.size, k * 3, none⟩ (.string (D.ty i j k))).cell? ⟨w4.heap.size, k * 3 + 1, none⟩ = some v1 := by
                      rw [World.cell?_setCell_other _ _ _ _ (by simp)]; exact g1
                    have q1' : ((wr.alloc (.cells #[.string (D.ty i j k), .bool wc, .string (D.re i j k)] 69)).setCell ⟨w4.heap.size, k * 3, none⟩ (.string (D.ty i j k))).frozen? ⟨w4.heap.size, k * 3 + 1, none⟩ = false := by
                      rw [World.frozen?_setCell]; exact q1
                    have g2' : (((wr.alloc (.cells #[.string (D.ty i j k), .bool wc, .string (D.re i j k)] 69)).setCell ⟨w4.heap.size, k * 3, none⟩ (.string (D.ty i j k))).setCell ⟨w4.heap.size, k * 3 + 1, none⟩ (.bool wc)).cell? ⟨w4.heap.size, k * 3 + 2, none⟩ = some v2 := by
                      rw [World.cell?_setCell_other _ _ _ _ (by simp), World.cell?_setCell_other _ _ _ _ (by simp)]; exact g2
                    have q2' : (((wr.alloc (.cells #[.string (D.ty i j k), .bool wc, .string (D.re i j k)] 69)).setCell ⟨w4.heap.size, k * 3, none⟩ (.string (D.ty i j k))).setCell ⟨w4.heap.size, k * 3 + 1, none⟩ (.bool wc)).frozen? ⟨w4.heap.size, k * 3 + 2, none⟩ = false := by
                      rw [World.frozen?_setCell, World.frozen?_setCell]; exact q2
                    have HX := hide (And.intro hrow2 (And.intro hb2X (hC2.trans hCk)))
                    have HbX := hide (HJ4.out.2.2.trans (hbX.mono HJ4.out.2.2.size))
                    clear hc3 hX hbX hrow2 hb2X hC2 ewc hrowk hbk hbw hlt4
                    cases wc
                    all_goals
                      go_wp2_with (first | (go_at_call_of 19 (Value.string (D.ty i j k)); refine (hnT _).mono ?_; rintro e w1 ⟨rfl, hw⟩; subst hw) | (go_at_call_of 19 (Value.string (D.re i j k)); refine (hnR _).mono ?_; rintro e w1 ⟨rfl, hw⟩; subst hw))
                    all_goals first
                      | (go_ret2; exact ⟨built_false _ _ _, HbX.out⟩)
                      | (go_roundw
                         case rel => exact ⟨k + 1, C2, by omega, by go_num, HX.out.1, HX.out.2.2, HX.out.2.1⟩
                         case measure => simp [intOf]; omega)
                  · obtain rfl : k = D.tn i j := by omega
                    have own1 := owns_below HJ4.out.1 hbk
                    have u0 := cell_later hbk e04
                    have u3 := cell_later hbk e34
                    have hlt3 : r0 + 1 + 1 < wr.heap.size := World.block_lt_of_cell? _ _ u3
                    have hltb : b2 < wr.heap.size := World.block_lt_of_cell? _ _ u0
                    obtain ⟨w9, hupd, hown9, hg9⟩ := (own1.alloc (.cells #[.string (D.rs i j), .slice (some ⟨w4.heap.size, 0, none⟩) (D.tn i j) (D.tn i j)] 74)).drew.update (string_keyed Tryf.underlying9) Tryf.underlying50 (by unfold maxLen; omega) (key := .string (D.rs i j)) (val := .pointer (some ⟨wr.heap.size, 0, none⟩)) (WideMaps.keyOf_string_mk Tryf.underlying9 (HI.out.rs_le i j hin hjn)) (d := .lit (.int .u64 (wr.heap.size : Int))) (ps := []) rfl
                    have hbut9 : But r0 W0 w9 := ((HJ4.out.2.1.below hbk).below (((RowKit.Below.refl _ _).alloc (Nat.le_refl _) (.cells #[.string (D.rs i j), .slice (some ⟨w4.heap.size, 0, none⟩) (D.tn i j) (D.tn i j)] 74)).drew)).grown hg9
                    have H9 := hide (And.intro hown9 hbut9)
                    clear own1 hown9 hbut9 hg9 hrowk hbk
                    go_wp2
                    go_region
                    go_wp2
                    go_roundw
                    case rel => exact ⟨j + 1, _, by omega, by go_num, H9.out.1, H9.out.2⟩
                    case measure => simp [intOf]; omega
          · obtain rfl : j = D.rn i := by omega
            have hhas : has M (.string (D.S i).data.toList) = false := by
              rcases HB.out.is.look (D.S i).data.toList with ⟨h1, _⟩ | ⟨i', _, _, h2⟩
              · exact h1
              · rw [← Hx.out] at h2
                exact absurd (ptrD_inj h2) (by simp)
            have hmlt : w.heap.size < r0 := by have := HB.out.own.lt; have := HR0.out; omega
            have own3 : wr.ownsMap Tryf.prog 9 elemR w.heap.size i M := hbut.owns (owns_below HB.out.own (by have h := HW.out.1; rw [← HR0.out] at h; exact h)) (by omega)
            obtain ⟨w10, hupd, hown10, hg10⟩ := own3.update (string_keyed Tryf.underlying9) Tryf.underlying39 (by unfold maxLen; omega) (key := .string (D.S i)) (val := .pointer (some ⟨r0 + 1 + 1, 0, none⟩)) (WideMaps.keyOf_string_mk Tryf.underlying9 (HI.out.S_le i hin)) (d := ptrD (some (r0 + 2))) (ps := []) rfl
            have hBI := HB.out.step (Nat.le_refl _) HR0.out (by have h := HW.out.1; rw [← HR0.out] at h; exact h) hW4 HW.out.2.2 hbut hown2 hhas hown10 hg10 hbj
            have H10 := hide hBI
            clear own3 hown10 hg10 hBI hown2 hbut hbj
            go_wp2
            go_roundw
            case rel => exact ⟨i + 1, _, _, by omega, by go_num, H10.out⟩
            case measure => simp [intOf]; omega
    · have hin' : i = n := by omega
      rw [hin'] at hB
      have HB := hide hB
      obtain ⟨wN, hwN⟩ : ∃ x, x = wr := ⟨_, rfl⟩
      subst hwN
      clear hB
      go_wp2
      go_loopw [13] (fun i' wj => ∃ k : Nat, k ≤ n ∧ i' = .int .i64 k ∧ RowKit.Below wN.heap.size wN wj) (fun i' _ => n - (intOf i').toNat)
      case atStart => exact ⟨0, Nat.zero_le _, rfl, RowKit.Below.refl _ _⟩
      case round =>
        obtain ⟨i2, hi2, rfl, hbo⟩ := hrel
        by_cases hin2 : i2 < n
        · obtain ⟨b, off, rfl, hc⟩ := HI.out.defs hn0
          have hi0 : (0 : Int) ≤ (i2 : Int) := by omega
          have hi1 : (i2 : Int) < (n : Int) := by omega
          have hbw : RowKit.Below w.heap.size w wr := HB.out.bel.trans (hbo.mono HB.out.bel.size)
          have c1 := cell_later hbw (hc i2 hin2).2
          obtain ⟨ra, era⟩ : ∃ x, D.ra i2 = x := ⟨_, rfl⟩
          rw [era] at c1
          have Hra := hide era
          have HBO := hide hbo
          have hrn : D.rn i2 ≤ 4096 := (HSm.out.2 i2 hin2).1
          clear hc era hbo hbw
          go_wp2
          clear c1
          go_loopw [15] (fun i' wj => ∃ k : Nat, k ≤ D.rn i2 ∧ i' = .int .i64 k ∧ RowKit.Below wN.heap.size wN wj) (fun i' _ => D.rn i2 - (intOf i').toNat)
          case atStart => exact ⟨0, Nat.zero_le _, rfl, HBO.out⟩
          case round =>
            obtain ⟨j, hj, rfl, hbo⟩ := hrel
            by_cases hjn : j < D.rn i2
            · obtain ⟨b2, off2, e2, hc2⟩ := HI.out.rels i2 hin2 (by omega)
              rw [Hra.out] at e2
              subst e2
              have hj0 : (0 : Int) ≤ (j : Int) := by omega
              have hj1 : (j : Int) < (D.rn i2 : Int) := by omega
              obtain ⟨ta, eta⟩ : ∃ x, D.ta i2 j = x := ⟨_, rfl⟩
              have HC2 := hide (hc2 j hjn).2
              rw [eta] at HC2
              have Hta := hide eta
              have HBO2 := hide hbo
              have htn : D.tn i2 j ≤ 4096 := (HSm.out.2 i2 hin2).2 j hjn
              clear hbo hc2 eta
              go_wp2
              go_loopw [16] (fun i' wk => ∃ k : Nat, k ≤ D.tn i2 j ∧ i' = .int .i64 k ∧ RowKit.Below wN.heap.size wN wk) (fun i' _ => D.tn i2 j - (intOf i').toNat)
              case atStart => exact ⟨0, Nat.zero_le _, rfl, HBO2.out⟩
              case round =>
                obtain ⟨k, hk, rfl, hbk⟩ := hrel
                have hbw : RowKit.Below w.heap.size w wr := HB.out.bel.trans (hbk.mono HB.out.bel.size)
                have c2 := cell_later hbw HC2.out
                by_cases hkn : k < D.tn i2 j
                · obtain ⟨b3, off3, e3, hc3⟩ := HI.out.types i2 j hin2 hjn (by omega)
                  rw [Hta.out] at e3
                  subst e3
                  have hk0 : (0 : Int) ≤ (k : Int) := by omega
                  have hk1 : (k : Int) < (D.tn i2 j : Int) := by omega
                  have f0 := cell_later hbw (hc3 k hkn).1
                  have f1 := cell_later hbw (hc3 k hkn).2.1
                  have f2 := cell_later hbw (hc3 k hkn).2.2
                  obtain ⟨wc, ewc⟩ : ∃ x, D.wc i2 j k = x := ⟨_, rfl⟩
                  rw [ewc] at f1
                  have hbX : RowKit.Below wN.heap.size wN (wr.alloc (.cells #[.string (D.ty i2 j k), .bool wc, .string (D.re i2 j k)] 69)) := hbk.alloc hbk.size _
                  obtain ⟨x, hx, hlook⟩ := look_uni Tryf.underlying39 Tryf.zero42 (owns_below HB.out.own hbX) (D.ty i2 j k) (HI.out.ty_le i2 j k hin2 hjn hkn)
                  have hlook' := hlook (wr.alloc (.cells #[.string (D.ty i2 j k), .bool wc, .string (D.re i2 j k)] 69)) rfl
                  have HbX := hide hbX
                  have HbW : Hid (RowKit.Below w.heap.size w (wr.alloc (.cells #[.string (D.ty i2 j k), .bool wc, .string (D.re i2 j k)] 69))) := HB.out.bel.trans (hbX.mono HB.out.bel.size)
                  clear hc3 ewc hlook hbk hbw hbX
                  cases x with
                  | none =>
                    clear hx
                    go_wp2
                    go_quiet (fail)
                    go_wp2
                    go_ret2
                    exact ⟨built_false _ _ _, HbW.out.trans (drewN_below _ _ _)⟩
                  | some f =>
                    obtain ⟨i', hi', hf⟩ : ∃ i', i' < n ∧ f = fl i' := by
                      rcases HB.out.is.look (D.ty i2 j k).data.toList with ⟨_, h2⟩ | ⟨i', hi', _, h2⟩
                      · have : some f = none := ptrD_inj (hx.trans h2)
                        cases this
                      · exact ⟨i', hi', Option.some.inj (ptrD_inj (hx.trans h2))⟩
                    obtain ⟨r, p, hblk, hrne, nn, R, hownR⟩ := HB.out.def_ i' hi'
                    rw [← hf] at hblk
                    have cblk := cell_later HbX.out (show wN.cell? ⟨f, 1, none⟩ = some (.map (some r)) by simp [World.cell?, hblk])
                    obtain ⟨x2, hx2, hlook2⟩ := look_uni Tryf.underlying50 Tryf.zero70 (owns_below hownR HbX.out) (D.re i2 j k) (HI.out.re_le i2 j k hin2 hjn hkn)
                    have hlook3 := fun m => hlook2 ((wr.alloc (.cells #[.string (D.ty i2 j k), .bool wc, .string (D.re i2 j k)] 69)).drewN m) rfl
                    clear hx hx2 hlook2 hownR hblk hf hrne
                    simp only [ptr, Option.map_some] at hlook'
                    by_cases hre : D.re i2 j k = ByteArray.empty
                    · rw [hre] at f2 hlook' hlook3 HbX HbW cblk
                      go_wp2
                      go_quiet (fail)
                      go_wp2
                      go_roundw
                      case rel => exact ⟨k + 1, by omega, by go_num, HbX.out.trans (drewN_below _ _ _)⟩
                      case measure => simp [intOf]; omega
                    · have hre' : ((D.re i2 j k).toList == []) = false := by
                        rw [ByteArray.toList_eq]
                        have hne : (D.re i2 j k).data.toList ≠ [] := fun h => hre (Go.WideShapes.bytes_inj (by rw [h]; rfl))
                        simpa using hne
                      cases x2 with
                      | none =>
                        simp only [ptr, Option.map_none] at hlook3
                        go_wp2
                        go_quiet (fail)
                        go_wp2
                        go_ret2
                        exact ⟨built_false _ _ _, HbW.out.trans (drewN_below _ _ _)⟩
                      | some f2' =>
                        simp only [ptr, Option.map_some] at hlook3
                        go_wp2
                        go_quiet (fail)
                        go_wp2
                        go_roundw
                        case rel => exact ⟨k + 1, by omega, by go_num, HbX.out.trans (drewN_below _ _ _)⟩
                        case measure => simp [intOf]; omega
                · obtain rfl : k = D.tn i2 j := by omega
                  have HBK := hide hbk
                  clear hbk hbw
                  go_wp2
                  go_roundw
                  case rel => exact ⟨j + 1, by omega, by go_num, HBK.out⟩
                  case measure => simp [intOf]; omega
            · obtain rfl : j = D.rn i2 := by omega
              go_wp2
              go_roundw
              case rel => exact ⟨i2 + 1, by omega, by go_num, hbo⟩
              case measure => simp [intOf]; omega
        · have HBO := hide hbo
          clear hbo
          go_wp2
          go_ret2
          refine ⟨⟨_, true, rfl, fun _ => .inr ⟨hn0, w.heap.size, n, M, fl, rfl, owns_below HB.out.own HBO.out, HB.out.is, fun k hk => ?_⟩⟩, HB.out.bel.trans (HBO.out.mono HB.out.bel.size)⟩
          obtain ⟨r, p, hblk, _⟩ := HB.out.def_ k hk
          exact cell_later HBO.out (by simp [World.cell?, hblk])
end Go.Proofs.Qxb6613654aFmt.Defs
