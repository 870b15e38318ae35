/-
  By the prover: THE WALK of FnLookupFindsEachDefinedFlag.
-/
import Derived.Test.Qxb6613675aFmtLookVar
import Derived.Deep.DeepCutAuto
import Derived.Deep.Light
import Derived.Deep.RegionHeld3
import Derived.Deep.RegionWith
namespace Go.Proofs.Qxb6613675aFmt.Look
open Go.RowKit Go.Deep

theorem of_drew {w w1 : World} (h : Below w.drew.heap.size w.drew w1) : Below w.heap.size w w1 := ((Below.refl _ _).drew).trans h

theorem Tryf.info9 : (Tryf.prog.info? 9).map (fun i => (i.zero, i.size, i.bytes)) = some (some (.string ⟨#[]⟩), 1, 16) := by kernel_rfl

/-- What the law's loops keep: m flags defined, the row of n names' stores, and what came in. -/
structure Inv (S : Nat → ByteArray) (fs nb n : Nat) (w0 : World) (m : Nat) (w : World) : Prop where
  fl : ∃ fl, FS S (fun i => IT i) fs fl w0.heap.size m w
  nm : ∃ C : Array Value, w.heap[nb]? = some (.cells C 9) ∧ C.size = n
  bel : Below w0.heap.size w0 w

theorem Inv.below {S : Nat → ByteArray} {fs nb n : Nat} {w0 : World} {m : Nat} {w w' : World} (h : Inv S fs nb n w0 m w) (hb : Below w.heap.size w w') : Inv S fs nb n w0 m w' := by
  obtain ⟨fl, hf⟩ := h.fl
  obtain ⟨C, hC, hz⟩ := h.nm
  exact ⟨⟨fl, hf.below hb⟩, ⟨C, (hb.block _ (lt_of_blk hC)).trans hC, hz⟩, h.bel.trans (hb.mono h.bel.size)⟩

theorem Inv.start (S : Nat → ByteArray) (n : Nat) (w0 w : World) (hb : Below w0.heap.size w0 w) :
    Inv S w.heap.size (w.heap.size + 1) n w0 0 ((w.alloc (.cells #[.slice none 0 0, .slice none 0 0] 29)).alloc (.cells (madeCells #[.string ⟨#[]⟩] n) 9)) := by
  refine ⟨⟨fun _ => 0, ⟨.slice none 0 0, ?_, ?_⟩, fun i hi => absurd hi (by omega)⟩, ⟨madeCells #[.string ⟨#[]⟩] n, ?_, ?_⟩, ?_⟩
  · rw [heap_alloc_old _ _ (by simp), heap_alloc_new]
  · exact ⟨rfl, .inl ⟨rfl, rfl⟩⟩
  · have := heap_alloc_new (w.alloc (.cells #[.slice none 0 0, .slice none 0 0] 29)) (.cells (madeCells #[.string ⟨#[]⟩] n) 9)
    simpa using this
  · simp [size_madeCells]
  · exact (hb.alloc hb.size _).alloc (by simp; have := hb.size; omega) _

/-- What a round of the first loop keeps. -/
theorem Inv.step {S : Nat → ByteArray} {fs nb n : Nat} {w0 : World} {m : Nat} {w w' : World} (hnb : w0.heap.size ≤ nb) (hne : nb ≠ fs) (h : Inv S fs nb n w0 m w) (hf : ∃ fl, FS S (fun i => IT i) fs fl w0.heap.size (m + 1) w') (hk : Kept fs w0.heap.size (w.setCell ⟨nb, m, none⟩ (.string (IT m))) w') : Inv S fs nb n w0 (m + 1) w' := by
  obtain ⟨C, hC, hz⟩ := h.nm
  refine ⟨hf, ⟨_, hk.blk nb _ 9 _ hne (heap_setCell_same w nb m C 9 _ hC) (by decide), by simp [hz]⟩, (h.bel.setCell hnb _).trans hk.bel⟩

set_option maxRecDepth 100000 in
set_option maxHeartbeats 1000000 in
theorem law_walk (a : Option Addr) (n c : Nat) (S : Nat → ByteArray) (q : ByteArray) (w : World) (hn0 : n ≤ maxLen) (hq : q.size ≤ maxLen) (hs : Strs w a n S) :
    Calls Tryf.prog 3 #[.slice a n c, .string q] w fun e w' => e = .returned (.bool true) ∧ Below w.heap.size w w' := by
  have Hby := hide (bytes_any a n c S q w hn0 hq hs)
  have Hov := hide (over_any a n c S q.size w hn0 (by omega) hs)
  by_cases hn : n ≤ 1024
  case neg =>
    unfold maxLen at hn0 hq
    go_enter Tryf.func3, Tryf.ntmps3
    go_wp2_with (go_at_call 7; refine Hby.out.mono ?_; rintro e w2 ⟨⟨r, rfl⟩, hw⟩; replace hw := hw.symm; subst hw)
    all_goals (go_ret; exact ⟨rfl, Below.refl _ _⟩)
  have Hdi := hide (dist_any a n c S w hn hs)
  have hmk := fun w => run_make_row' (P := Tryf.prog) 22 9 (.string ⟨#[]⟩) 16 Tryf.underlying22 Tryf.info9 rfl .i64 .i64 n (by omega) (by omega) w
  have Hs := hide hs
  clear hs
  unfold maxLen at hn0 hq
  go_enter Tryf.func3, Tryf.ntmps3
  go_wp2_with (first
    | (go_at_call 7; refine Hby.out.mono ?_; rintro e w2 ⟨⟨r, rfl⟩, hw⟩; replace hw := hw.symm; subst hw)
    | (go_at_call 8; refine Hov.out.mono ?_; rintro e w2 ⟨⟨r2, rfl⟩, hw⟩; replace hw := hw.symm; subst hw)
    | (go_at_call 9; refine Hdi.out.mono ?_; rintro e w1 ⟨⟨r3, rfl, hr⟩, hb1⟩; have HR := hide hr; have HB := hide hb1; clear hr hb1))
  all_goals try (go_ret; first | exact ⟨rfl, Below.refl _ _⟩ | exact ⟨rfl, HB.out⟩)
  have hrt : r3 = true := by
    have h : (!r3) = false := by assumption
    simpa using h
  have HD := hide (HR.out hrt)
  subst hrt
  simp only [Bool.not_true]
  have HI0 := hide (Inv.start S n w w1 HB.out)
  have hB : w.heap.size ≤ w1.heap.size := HB.out.size
  clear HR Hby Hov Hdi hmk HB
  go_loopw [7] (fun i wr => ∃ m : Nat, m ≤ n ∧ i = .int .i64 m ∧ Inv S w1.heap.size (w1.heap.size + 1) n w m wr) (fun i _ => n - (intOf i).toNat)
  case atStart => exact ⟨0, Nat.zero_le _, rfl, HI0.out⟩
  case round =>
    obtain ⟨m, hm, rfl, hI⟩ := hrel
    clear HI0
    by_cases hmn : m < n
    · obtain ⟨b, off, rfl, hc⟩ := Hs.out (by omega)
      have hm0 : (0 : Int) ≤ (m : Int) := by omega
      have hm1 : (m : Int) < (n : Int) := by omega
      have Hc0 := hide (hc m hmn).1
      have cm : wr.cell? ⟨b, off + m, none⟩ = some (.string (S m)) := cell_later hI.bel (hc m hmn).1
      have HI := hide hI
      have Hlt : b < wr.heap.size := World.block_lt_of_cell? _ _ cm
      clear hI hc
      go_wp2
      go_region_held3 (fun w' => w'.cell? ⟨b, off + m, none⟩ = some (.string (S m))) (first | go_keep | exact cm2 | exact cm3) ((first
        | (go_at_call 11; refine (itoa_any m wr.drew (by omega)).mono ?_; rintro e w2 ⟨rfl, hb2⟩; have hI2 := HI.out.below (of_drew hb2); have cm2 := cell_later (of_drew hb2) cm; have HI2 := hide hI2; have h2 := hI2.fl; obtain ⟨fl, hfl⟩ := h2; have HFL := hide hfl; have h3 := hI2.nm; obtain ⟨C, hC, hCz⟩ := h3; have HC := hide (And.intro hC hCz); clear hI2 hb2 hfl hC hCz)
        | (go_at_call 10; refine (stringVar_any S (fun i => IT i) w1.heap.size (w1.heap.size + 1) m fl w.heap.size m _ C w2 (by omega) hB HFL.out HC.out.1 (by rw [HC.out.2]; omega) (fun i hi => (HD.out m i hmn hi).symm)).mono ?_; rintro e w3 ⟨rfl, hF3, hK3⟩; obtain ⟨f3, hF3⟩ := hF3; have HI3 := hide (HI2.out.step (by omega) (by omega) ⟨_, hF3⟩ hK3); have cm3 := cell_later HI3.out.bel Hc0.out; clear hF3 hK3)))
      clear cm cm2 cm3 HI HI2 HFL HC
      go_wp2
      go_roundw
      case rel => exact ⟨m + 1, by omega, by go_num, HI3.out⟩
      case measure => simp [intOf]; omega
    · obtain rfl : m = n := by omega
      have HIn := hide hI
      clear hI
      go_wp2
      go_loopw [8] (fun i wr => ∃ k : Nat, k ≤ m ∧ i = .int .i64 k ∧ Inv S w1.heap.size (w1.heap.size + 1) m w m wr) (fun i _ => m - (intOf i).toNat)
      case atStart => exact ⟨0, Nat.zero_le _, rfl, HIn.out⟩
      case round =>
        obtain ⟨k, hk, rfl, hI⟩ := hrel
        clear HIn
        by_cases hkm : k < m
        · obtain ⟨b, off, rfl, hc⟩ := Hs.out (by omega)
          obtain ⟨fl, hfl⟩ := hI.fl
          obtain ⟨ga, gc, hg1, _, hg3⟩ := hfl.view
          obtain ⟨u, val, hblk⟩ := hfl.flag k hkm
          have hk0 : (0 : Int) ≤ (k : Int) := by omega
          have hk1 : (k : Int) < (m : Int) := by omega
          have ck := cell_later hI.bel (hc k hkm).1
          have d0 : wr.cell? ⟨fl k, 0, none⟩ = some (.string (S k)) := by simp [World.cell?, hblk, Flag]
          have d4 : wr.cell? ⟨fl k, 4, none⟩ = some (.string (IT k)) := by simp [World.cell?, hblk, Flag]
          have d5 : wr.cell? ⟨fl k, 5, none⟩ = some (.bool false) := by simp [World.cell?, hblk, Flag]
          have cs : wr.cell? ⟨w1.heap.size, 0, none⟩ = some (.slice ga m gc) := by simp [World.cell?, hg1]
          have HL := hide (lookup_hit S fl m gc ga w1.heap.size (S k) k wr hn hg3 cs hkm rfl (fun i hi => (HD.out k i hkm hi).symm))
          have HI := hide hI
          have HDs := hide (And.intro d0 (And.intro d4 d5))
          clear hI hfl hg1 hg3 hblk cs hc d0 d4 d5
          go_wp2_with (go_at_call 12; refine HL.out.mono ?_; rintro e w2 ⟨rfl, hb2⟩; have HI2 := hide (HI.out.below hb2); have e0 := cell_later hb2 HDs.out.1; have e4 := cell_later hb2 HDs.out.2.1; have e5 := cell_later hb2 HDs.out.2.2; have ek := cell_later hb2 ck; clear hb2 ck HDs)
          go_region_held3 (fun w' => w'.cell? ⟨b, off + k, none⟩ = some (.string (S k)) ∧ w'.cell? ⟨fl k, 0, none⟩ = some (.string (S k)) ∧ w'.cell? ⟨fl k, 4, none⟩ = some (.string (IT k)) ∧ w'.cell? ⟨fl k, 5, none⟩ = some (.bool false)) (first | go_keep | exact cm3) ((go_at_call 11; refine (itoa_any k w2.drew (by omega)).mono ?_; rintro e w3 ⟨rfl, hb3⟩; have HI3 := hide (HI2.out.below (of_drew hb3)); have cm3 := (And.intro (cell_later (of_drew hb3) ek) (And.intro (cell_later (of_drew hb3) e0) (And.intro (cell_later (of_drew hb3) e4) (cell_later (of_drew hb3) e5)))); clear hb3))
          clear e0 e4 e5 ek cm3 HI HI2 HL
          go_wp2
          go_roundw
          case rel => exact ⟨k + 1, by omega, by go_num, HI3.out⟩
          case measure => simp [intOf]; omega
        · obtain rfl : k = m := by omega
          have HIn := hide hI
          clear hI
          go_wp2
          go_loop [10, 11] (fun en i => ∃ j : Nat, j ≤ k ∧ i = .int .i64 j ∧ en = .int .i64 (-1) ∧ Hid (∀ i, i < j → (S i).toList ≠ q.toList)) (fun _ i => k - (intOf i).toNat)
          case atStart => exact ⟨0, Nat.zero_le _, rfl, rfl, fun i h => absurd h (by omega)⟩
          case round =>
            obtain ⟨j, hj, rfl, rfl, HE⟩ := hrel
            obtain ⟨fl, hfl⟩ := HIn.out.fl
            obtain ⟨ga, gc, hg1, _, hg3⟩ := hfl.view
            have cs : wr.cell? ⟨w1.heap.size, 0, none⟩ = some (.slice ga k gc) := by simp [World.cell?, hg1]
            by_cases hjk : j < k
            · obtain ⟨b, off, rfl, hc⟩ := Hs.out (by omega)
              obtain ⟨u, val, hblk⟩ := hfl.flag j hjk
              have hj0 : (0 : Int) ≤ (j : Int) := by omega
              have hj1 : (j : Int) < (k : Int) := by omega
              have cj := cell_later HIn.out.bel (hc j hjk).1
              by_cases he : (S j).toList = q.toList
              · have he' : ((S j).toList == q.toList) = true := by simpa using he
                have d0 : wr.cell? ⟨fl j, 0, none⟩ = some (.string (S j)) := by simp [World.cell?, hblk, Flag]
                have d4 : wr.cell? ⟨fl j, 4, none⟩ = some (.string (IT j)) := by simp [World.cell?, hblk, Flag]
                have HL := hide (lookup_hit S fl k gc ga w1.heap.size q j wr hn hg3 cs hjk he HE.out)
                have HDs := hide (And.intro d0 d4)
                clear hfl hg1 hg3 hblk cs hc d0 d4
                go_wp2_with (go_at_call 12; refine HL.out.mono ?_; rintro e w2 ⟨rfl, hb2⟩; have HI2 := hide (HIn.out.below hb2); have e0 := cell_later hb2 HDs.out.1; have e4 := cell_later hb2 HDs.out.2; clear hb2 HDs)
                go_region_held3 (fun w' => w'.cell? ⟨fl j, 0, none⟩ = some (.string (S j)) ∧ w'.cell? ⟨fl j, 4, none⟩ = some (.string (IT j))) (first | go_keep | exact cm3) ((go_at_call 11; refine (itoa_any j w2.drew (by omega)).mono ?_; rintro e w3 ⟨rfl, hb3⟩; have HI3 := hide (HI2.out.below (of_drew hb3)); have cm3 := And.intro (cell_later (of_drew hb3) e0) (cell_later (of_drew hb3) e4); clear hb3))
                clear e0 e4 cm3
                go_wp2
                go_ret
                exact ⟨rfl, HI3.out.bel⟩
              · have he' : ((S j).toList == q.toList) = false := by simpa using he
                clear hfl hg1 hg3 hblk cs hc
                go_wp2
                go_round
                case rel => exact ⟨j + 1, by omega, by go_num, rfl, fun i h => (by
                    by_cases e : i = j
                    · subst e; exact he
                    · exact HE.out i (by omega))⟩
                case measure => simp [intOf]; omega
            · obtain rfl : j = k := by omega
              have HL := hide (lookup_miss S fl j gc ga w1.heap.size q wr hn hg3 cs HE.out)
              clear hfl hg1 hg3 cs
              go_wp2_with (go_at_call 12; refine HL.out.mono ?_; rintro e w2 ⟨rfl, hb2⟩)
              go_ret
              exact ⟨rfl, (HIn.out.below hb2).bel⟩
end Go.Proofs.Qxb6613675aFmt.Look
