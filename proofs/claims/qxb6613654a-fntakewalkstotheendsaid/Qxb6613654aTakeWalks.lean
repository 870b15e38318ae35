/-
  By the prover: THE WALK of FnTakeWalksToTheEnd.
-/
import Derived.Test.Qxb6613654aTakeBytes
import Derived.Test.Qxb6613654aTakeLeaves
import Derived.Test.Qxb6613654aTakeClone
import Derived.Deep.DeepCutAuto
import Derived.Deep.Light
namespace Go.Proofs.Qxb6613654a.Take
open Go.RowKit Go.Deep

theorem none_of {a : Option Addr} (h : a.isSome = false) : a = none := by cases a <;> simp_all

theorem hide {p : Prop} (h : p) : Hid p := h

theorem toks_fst (S : Nat → ByteArray) (Z : Nat → Int) (n i : Nat) (h : i < n) : toks S Z n (i * 2) = .string (S i) := by
  simp [toks, h]
theorem toks_snd (S : Nat → ByteArray) (Z : Nat → Int) (n i : Nat) (h : i < n) : toks S Z n (i * 2 + 1) = .int .i64 (Z i) := by
  simp [toks, show (i * 2 + 1) / 2 = i by omega, show (i * 2 + 1) % 2 = 1 by omega, h]

/-- What the last loop keeps: the parser stands at min (nx + m) j over the tokens; the two copies are as they were made. -/
structure Inv (S : Nat → ByteArray) (Z : Nat → Int) (n nx j p gt g g1 : Nat) (w0 : World) (m : Nat) (w : World) : Prop where
  c0 : w.cell? ⟨p, 0, none⟩ = some (.slice (some ⟨gt, 0, none⟩) n n)
  c1 : w.cell? ⟨p, 1, none⟩ = some (.int .i64 ((min (nx + m) j : Nat) : Int))
  f1 : w.frozen? ⟨p, 1, none⟩ = false
  tk : w.rowIs gt 56 (n * 2) (toks S Z n)
  r0 : w.rowIs g 9 n (fun i => .string (S i))
  r1 : w.rowIs g1 3 n (fun i => .int .i64 (Z i))
  bel : Below w0.heap.size w0 w

variable {S : Nat → ByteArray} {Z : Nat → Int} {n nx j p gt g g1 : Nat} {w0 : World} {m : Nat} {w w' : World}

theorem Inv.tok (h : Inv S Z n nx j p gt g g1 w0 m w) (i : Nat) (hi : i < n) : w.cell? ⟨gt, i * 2, none⟩ = some (.string (S i)) ∧ w.cell? ⟨gt, i * 2 + 1, none⟩ = some (.int .i64 (Z i)) := by
  have a := h.tk.cell (i := i * 2) (by omega)
  have b := h.tk.cell (i := i * 2 + 1) (by omega)
  rw [toks_fst S Z n i hi] at a
  rw [toks_snd S Z n i hi] at b
  exact ⟨a, b⟩

theorem Inv.stay (h : Inv S Z n nx j p gt g g1 w0 m w) (hj : ¬ nx + m < j) (hb : Below w.heap.size w w') : Inv S Z n nx j p gt g g1 w0 (m + 1) w' := by
  have lp : p < w.heap.size := World.block_lt_of_cell? _ _ h.c0
  exact ⟨(hb.cell (p := ⟨p, 0, none⟩) lp).trans h.c0, by
      rw [show min (nx + (m + 1)) j = min (nx + m) j by omega]; exact (hb.cell (p := ⟨p, 1, none⟩) lp).trans h.c1,
    (hb.frozen (p := ⟨p, 1, none⟩) lp).trans h.f1, h.tk.of_block (hb.block _ h.tk.lt), h.r0.of_block (hb.block _ h.r0.lt), h.r1.of_block (hb.block _ h.r1.lt), h.bel.trans (hb.mono h.bel.size)⟩

theorem Inv.step (h : Inv S Z n nx j p gt g g1 w0 m w) (hj : nx + m < j) (hp : w0.heap.size ≤ p) (n1 : p ≠ gt) (n2 : p ≠ g) (n3 : p ≠ g1)
    (hb : Below w.heap.size (w.setCell ⟨p, 1, none⟩ (.int .i64 (((nx + m : Nat) : Int) + 1))) w') :
    Inv S Z n nx j p gt g g1 w0 (m + 1) w' := by
  have lp : p < w.heap.size := World.block_lt_of_cell? _ _ h.c0
  refine ⟨?_, ?_, ?_, ?_, ?_, ?_, ?_⟩
  · rw [hb.cell (p := ⟨p, 0, none⟩) lp, World.cell?_setCell_other _ _ _ _ (by simp)]; exact h.c0
  · rw [hb.cell (p := ⟨p, 1, none⟩) lp, World.cell?_setCell_same _ _ _ h.c1]
    rw [show min (nx + (m + 1)) j = nx + m + 1 by omega]
    rfl
  · rw [hb.frozen (p := ⟨p, 1, none⟩) lp, World.frozen?_setCell]; exact h.f1
  · exact (h.tk.setOther (a := ⟨p, 1, none⟩) (Ne.symm n1) _).of_block (hb.block _ h.tk.lt)
  · exact (h.r0.setOther (a := ⟨p, 1, none⟩) (Ne.symm n2) _).of_block (hb.block _ h.r0.lt)
  · exact (h.r1.setOther (a := ⟨p, 1, none⟩) (Ne.symm n3) _).of_block (hb.block _ h.r1.lt)
  · exact (h.bel.setCell hp _).trans (hb.mono h.bel.size)

/-- A slice of the call's own, or one without an element. -/
def Own (B : Nat) (w : World) (E : TypeId) (n : Nat) (V : Nat → Value) (v : Value) : Prop :=
  ∃ a c, v = .slice a n c ∧ (0 < n → ∃ g, a = some ⟨g, 0, none⟩ ∧ B ≤ g ∧ w.rowIs g E n V)

set_option maxRecDepth 100000 in
set_option maxHeartbeats 1000000 in
theorem law_walk (a : Option Addr) (n c : Nat) (S : Nat → ByteArray) (a1 : Option Addr) (n1 c1 : Nat) (Z : Nat → Int) (x k : Int) (w : World) (hn : n ≤ maxLen) (hn1 : n1 ≤ maxLen)
    (hs : Strs w a n S) (hz : 0 < n1 → ∃ b off, a1 = some ⟨b, off, none⟩ ∧ ∀ i, i < n1 → w.cell? ⟨b, off + i, none⟩ = some (.int .i64 (Z i)))
    (ha : a = none → n = 0) (ha1 : a1 = none → n1 = 0) (wx : (Lit.int .i64 x).wf = true) (wk : (Lit.int .i64 k).wf = true) :
    Calls Try.prog 3 #[.slice a n c, .slice a1 n1 c1, .int .i64 x, .int .i64 k] w fun e w' => e = .returned (.bool true) ∧ Below w.heap.size w w' := by
  have Hby := hide (bytes_any a n c S a1 n1 c1 x k w hn hn1 hs)
  unfold maxLen at hn hn1
  have q22 : ∀ (w : World) (a : Option Addr) (n c : Nat), (binOp .neq 22 (.slice a n c) (.slice none 0 0)).run Try.prog w = .ok (.bool (!a.isNone)) w := fun w a n c => run_neq_slice_nil_any w _ _ a n c 0 0 Try.underlying22
  have q23 : ∀ (w : World) (a : Option Addr) (n c : Nat), (binOp .neq 23 (.slice a n c) (.slice none 0 0)).run Try.prog w = .ok (.bool (!a.isNone)) w := fun w a n c => run_neq_slice_nil_any w _ _ a n c 0 0 Try.underlying23
  have Hs := hide hs
  have Hz := hide hz
  have Ha := hide ha
  have Ha1 := hide ha1
  clear hs hz ha ha1
  go_enter Try.func3, Try.ntmps3
  go_upto_if 36 with (go_at_call 6; refine Hby.out.mono ?_; rintro e w2 ⟨⟨r, rfl, hr⟩, hw⟩; replace hw := hw.symm; subst hw; have HS := hide hr; clear hr)
  all_goals try (go_ret; exact ⟨rfl, Below.refl _ _⟩)
  have hrt : r = true := by
    have h : (!r) = false := by assumption
    simpa using h
  have HS' := hide (HS.out hrt)
  clear HS hrt
  have hnn : n ≤ 65536 ∧ n1 ≤ 65536 := by omega
  obtain ⟨hn2, hn3⟩ := hnn
  go_cut [0] (fun v wc => Own w.heap.size wc 9 n (fun i => .string (S i)) v ∧ Below w.heap.size w wc)
  case first =>
    obtain ⟨W0, W1, hmk, hcp, hrow, hbel⟩ := clone_runs 22 9 (.string ⟨#[]⟩) 16 Try.underlying22 Try.info9 rfl a n c (fun i => .string (S i)) w (by omega) (by omega) (fun h => by
      obtain ⟨b, off, e, hc⟩ := Hs.out h
      exact ⟨b, off, e, fun i hi => (hc i hi).1⟩) (fun _ => rfl)
    have Hrow := hide hrow
    have Hbel := hide hbel
    clear hrow hbel
    go_wp2
    all_goals go_meet
    all_goals first
      | exact ⟨⟨_, _, rfl, fun _ => ⟨w.heap.size, rfl, Nat.le_refl _, Hrow.out⟩⟩, Hbel.out⟩
      | (have hna : a.isSome = false := by assumption
         have h0 : n = 0 := Ha.out (none_of hna)
         exact ⟨⟨a, c, rfl, fun h => absurd h (by omega)⟩, Below.refl _ _⟩)
  case rest =>
  obtain ⟨⟨a', c', rfl, hrow⟩, hbel⟩ := hcut
  have Hrow := hide hrow
  have Hbel := hide hbel
  clear hrow hbel
  go_upto_if 45 with fail
  go_cut [1] (fun v wd => Own w.heap.size wd 3 n1 (fun i => .int .i64 (Z i)) v ∧ Own w.heap.size wd 9 n (fun i => .string (S i)) (.slice a' n c') ∧ Below w.heap.size w wd)
  case first =>
    obtain ⟨W0, W1, hmk, hcp, hrow, hbel⟩ := clone_runs 23 3 (.int .i64 0) 8 Try.underlying23 Try.info3 rfl a1 n1 c1 (fun i => .int .i64 (Z i)) wc (by omega) (by omega) (fun h => by
      obtain ⟨b, off, e, hc⟩ := Hz.out h
      exact ⟨b, off, e, fun i hi => (Hbel.out.cell (World.block_lt_of_cell? _ _ (hc i hi))).trans (hc i hi)⟩) (fun _ => rfl)
    have Hrow1 := hide hrow
    have Hbel1 := hide hbel
    clear hrow hbel
    go_wp2
    all_goals go_meet
    · refine ⟨⟨_, _, rfl, fun _ => ⟨wc.heap.size, rfl, Hbel.out.size, Hrow1.out⟩⟩, ⟨_, _, rfl, fun h => ?_⟩, Hbel.out.trans (Hbel1.out.mono Hbel.out.size)⟩
      obtain ⟨g, e, hg, hr⟩ := Hrow.out h
      exact ⟨g, e, hg, hr.of_block (Hbel1.out.block _ hr.lt)⟩
    · have hna : a1.isSome = false := by assumption
      have h0 : n1 = 0 := Ha1.out (none_of hna)
      exact ⟨⟨a1, c1, rfl, fun h => absurd h (by omega)⟩, ⟨_, _, rfl, Hrow.out⟩, Hbel.out⟩
  case rest =>
  obtain ⟨⟨a1', c1', rfl, hrow1⟩, ⟨a2', c2', e2, hrow⟩, hbel⟩ := hcut
  obtain ⟨rfl, -, rfl⟩ := Value.slice.inj e2
  clear Hby q22 q23 Hs Hz Ha Ha1 Hrow Hbel e2
  have Hrow1 := hide hrow1
  have Hbel := hide hbel
  clear hrow1 hbel
  by_cases h0 : n = 0
  · subst h0
    clear hrow Hrow1
    go_wp2
    refine wp_loop_rounds 1 ?_
    rw [rounds_succ]
    go_wp2
    all_goals (go_ret; exact ⟨rfl, Hbel.out⟩)
  · obtain ⟨g, rfl, hg, hr⟩ := hrow (by omega)
    have Hr := hide hr
    clear hr hrow
    go_wp2
    · go_ret; exact ⟨rfl, Hbel.out⟩
    · go_loop [11, 12] (fun z i => ∃ (j : Nat) (s : Int), j ≤ n ∧ i = .int .i64 j ∧ z = .int .i64 s ∧ 0 ≤ s ∧ s ≤ 1048576) (fun _ i => n - (intOf i).toNat)
      case atStart => exact ⟨0, _, Nat.zero_le _, rfl, rfl, by omega, by omega⟩
      case round =>
        obtain ⟨j, s, hj, rfl, rfl, h0, h1⟩ := hrel
        by_cases hjn : j < n
        · have hcell := Hr.out.cell hjn
          have hsz := HS'.out j hjn
          go_wp2
          · go_ret; exact ⟨rfl, Hbel.out⟩
          · go_round
            case rel => exact ⟨j + 1, s + (S j).size, by omega, by go_num, rfl, by omega, by omega⟩
            case measure => simp [intOf]; omega
        · by_cases hall : (0 ≤ k ∧ k ≤ 65536) ∧ n1 = n ∧ 0 ≤ x ∧ x < n
          · obtain ⟨⟨hk0, hk1⟩, hnn1, hx0, hx1⟩ := hall
            obtain ⟨nx, rfl⟩ : ∃ nx : Nat, x = nx := ⟨x.toNat, by omega⟩
            obtain ⟨K, rfl⟩ : ∃ K : Nat, k = K := ⟨k.toNat, by omega⟩
            subst hnn1
            obtain ⟨g1, rfl, hg1, hr1⟩ := Hrow1.out (by omega)
            have Hr1 := hide hr1
            have Hnew := hide (new_any g 0 g1 0 n1 c' c1' S Z nx wc hn2 (fun i hi => by simpa using Hr.out.cell hi) (fun i hi => by simpa using Hr1.out.cell hi))
            clear hr1 Hrow1
            go_wp2
            go_loop [13, 14] (fun en i => ∃ q : Nat, nx ≤ q ∧ q ≤ n1 ∧ i = .int .i64 q ∧ en = .int .i64 (-1) ∧ Hid (∀ i, nx ≤ i → i < q → (S i).toList.isEmpty = false)) (fun _ i => n1 - (intOf i).toNat)
            case atStart => exact ⟨nx, Nat.le_refl _, by omega, rfl, rfl, fun i h1 h2 => absurd h2 (by omega)⟩
            case round =>
              obtain ⟨q, hq0, hq1, rfl, rfl, HE⟩ := hrel
              by_cases hqn : q < n1
              · have hcell := Hr.out.cell hqn
                by_cases he : (S q).toList.isEmpty = true
                · go_wp2_with (go_at_call 7; refine Hnew.out.mono ?_; rintro e w3 ⟨p, gt, rfl, hp, hgt, hpg, c0, c1, f1, hrt, hb3⟩)
                  have lg : g < wc.heap.size := Hr.out.lt
                  have lg1 : g1 < wc.heap.size := Hr1.out.lt
                  have I0 : Inv S Z n1 nx q p gt g g1 w 0 w3 := ⟨c0, by rw [show min (nx + 0) q = nx by omega]; exact c1, f1, hrt, Hr.out.of_block (hb3.block _ lg), Hr1.out.of_block (hb3.block _ lg1), Hbel.out.trans (hb3.mono Hbel.out.size)⟩
                  have hp' : w.heap.size ≤ p := Nat.le_trans Hbel.out.size hp
                  have hpg1 : p ≠ g := by omega
                  have hpg2 : p ≠ g1 := by omega
                  have HI0 := hide I0
                  have Hp := hide (And.intro hp' (And.intro hpg (And.intro hpg1 hpg2)))
                  clear c0 c1 f1 hrt hb3 I0 hp hgt hpg hpg1 hpg2 lg lg1 hp' Hnew Hr Hr1 Hbel hcell
                  go_loopw [16] (fun i wr => ∃ m : Nat, m ≤ K ∧ i = .int .i64 m ∧ Inv S Z n1 nx q p gt g g1 w m wr) (fun i _ => K - (intOf i).toNat)
                  case atStart => exact ⟨0, Nat.zero_le _, rfl, HI0.out⟩
                  case round =>
                    obtain ⟨m, hm, rfl, hI⟩ := hrel
                    clear HI0
                    by_cases hmK : m < K
                    · have HI := hide hI
                      clear hI
                      by_cases hon : nx + m < q
                      · have HT := hide (zztake_on p gt n1 n1 (nx + m) (S (nx + m)) (Z (nx + m)) wr (by omega) (by omega) HI.out.c0 (by have := HI.out.c1; rwa [show min (nx + m) q = nx + m by omega] at this) HI.out.f1 (HI.out.tok _ (by omega)).1 (HI.out.tok _ (by omega)).2 (HE.out _ (by omega) hon))
                        go_wp2_with (first
                          | (go_at_call 8; refine HT.out.mono ?_; rintro e w4 ⟨rfl, hb4⟩; have HI4 := hide (HI.out.step hon Hp.out.1 Hp.out.2.1 Hp.out.2.2.1 Hp.out.2.2.2 hb4); clear hb4; have d0 := HI4.out.r0.cell (i := nx + m) (by omega); have d1 := HI4.out.r1.cell (i := nx + m) (by omega))
                          | (go_at_call 9; refine (next_any p ((nx + m + 1 : Nat) : Int) _ (by have := HI4.out.c1; rwa [show min (nx + (m + 1)) q = nx + m + 1 by omega] at this)).mono ?_; rintro e w5 ⟨rfl, hw⟩; replace hw := hw.symm; subst hw))
                        go_roundw
                        case rel => exact ⟨m + 1, by omega, by go_num, HI4.out⟩
                        case measure => simp [intOf]; omega
                      · have HT := hide (zztake_end p gt n1 n1 q (S q) (Z q) wr (by omega) HI.out.c0 (by have := HI.out.c1; rwa [show min (nx + m) q = q by omega] at this) (HI.out.tok _ (by omega)).1 (HI.out.tok _ (by omega)).2 he)
                        by_cases heq : nx + m = q
                        · have Heq := hide heq
                          have hle : nx + m ≤ q := by omega
                          have hge : q ≤ nx + m := by omega
                          clear heq
                          go_wp2_with (first
                            | (go_at_call 8; refine HT.out.mono ?_; rintro e w4 ⟨rfl, hb4⟩; have HI4 := hide (HI.out.stay hon hb4); clear hb4; have d0 := HI4.out.r0.cell (i := nx + m) (by omega); have d1 := HI4.out.r1.cell (i := nx + m) (by omega); replace d0 : w4.cell? ⟨g, nx + m, none⟩ = some (.string (S q)) := (by rw [d0, Heq.out]); replace d1 : w4.cell? ⟨g1, nx + m, none⟩ = some (.int .i64 (Z q)) := (by rw [d1, Heq.out]))
                            | (go_at_call 9; refine (next_any p (q : Int) _ (by have := HI4.out.c1; rwa [show min (nx + (m + 1)) q = q by omega] at this)).mono ?_; rintro e w5 ⟨rfl, hw⟩; replace hw := hw.symm; subst hw))
                          go_roundw
                          case rel => exact ⟨m + 1, by omega, by go_num, HI4.out⟩
                          case measure => simp [intOf]; omega
                        · go_wp2_with (first
                            | (go_at_call 8; refine HT.out.mono ?_; rintro e w4 ⟨rfl, hb4⟩; have HI4 := hide (HI.out.stay hon hb4); clear hb4; have d0 := HI4.out.r0.cell (i := q) (by omega); have d1 := HI4.out.r1.cell (i := q) (by omega))
                            | (go_at_call 9; refine (next_any p (q : Int) _ (by have := HI4.out.c1; rwa [show min (nx + (m + 1)) q = q by omega] at this)).mono ?_; rintro e w5 ⟨rfl, hw⟩; replace hw := hw.symm; subst hw))
                          go_roundw
                          case rel => exact ⟨m + 1, by omega, by go_num, HI4.out⟩
                          case measure => simp [intOf]; omega
                    · go_wp2
                      go_ret
                      exact ⟨rfl, hI.bel⟩
                · have he' : (S q).toList.isEmpty = false := by simpa using he
                  clear he
                  go_wp2
                  go_round
                  case rel => exact ⟨q + 1, by omega, by omega, by go_num, rfl, fun i h1 h2 => (by
                    by_cases e : i = q
                    · subst e; exact he'
                    · exact HE.out i h1 (by omega))⟩
                  case measure => simp [intOf]; omega
              · go_wp2
                go_ret
                exact ⟨rfl, Hbel.out⟩
          · go_wp2
            all_goals (go_ret; exact ⟨rfl, Hbel.out⟩)
end Go.Proofs.Qxb6613654a.Take
