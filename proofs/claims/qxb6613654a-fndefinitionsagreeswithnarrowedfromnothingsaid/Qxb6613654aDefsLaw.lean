/-
  By the prover: THE WALK of the law FnDefinitionsAgreesWithNarrowedFromNothing: whatever []Def comes in it answers true.
-/
import Derived.Test.Qxb6613654aDefsBuild
import Derived.Test.Qxb6613654aDefsNarrow
import Derived.Test.Qxb6613654aDefsZz
import Derived.Deep.DeepCutAuto
namespace Go.Proofs.Qxb6613654a.Defs
open Go.RowKit Go.Maps Go.Deep

/-! ### The names: a map[string]bool -/

def boolR (v : Value) : Option (DataW Unit × List MemPlace) := match v with
  | .bool b => some (.lit (.bool b), [])
  | _ => none
theorem boolR_inv {v : Value} {x : DataW Unit × List MemPlace} (h : boolR v = some x) : ∃ b, v = .bool b ∧ x = (.lit (.bool b), []) := by
  cases v <;> simp [boolR] at h
  exact ⟨_, rfl, h.symm⟩

structure NamesIs (k : Nat) (S : Nat → ByteArray) (N : DataW Unit) : Prop where
  tidy : Tidy N
  at_ : ∀ i, i < k → ∀ z, N.atKey (.string (S i).data.toList) z = .lit (.bool true)

theorem NamesIs.empty (S : Nat → ByteArray) : NamesIs 0 S (.map []) := ⟨tidy_empty, fun i h => absurd h (by omega)⟩
theorem NamesIs.put {k : Nat} {S : Nat → ByteArray} {N : DataW Unit} (h : NamesIs k S N) : NamesIs (k + 1) S (N.put (.string (S k).data.toList) (.lit (.bool true))) := by
  have hk : WideAt.IsKeyLit (.string (S k).data.toList) := trivial
  refine ⟨h.tidy.put hk _, fun i hi z => ?_⟩
  by_cases e : (S i).data.toList = (S k).data.toList
  · rw [e]
    exact atKey_put_same h.tidy.isMap hk _ _
  · rw [atKey_put_other (by simpa using e)]
    exact h.at_ i (by
      rcases Nat.lt_succ_iff_lt_or_eq.1 hi with h1 | rfl
      · exact h1
      · exact absurd rfl e) z

theorem Try.zero4 (w : World) : (zeroValue 4).run Try.prog w = .ok (.bool false) w := by kernel_rfl

theorem look_name {w : World} {b nn k : Nat} {S : Nat → ByteArray} {N : DataW Unit} (h : w.ownsMap Try.prog 9 boolR b nn N) (hN : NamesIs k S N) (i : Nat) (hi : i < k) (hs : (S i).size ≤ maxLen) (w' : World) (hb : RowKit.Below w.heap.size w w') :
    (Instr.lookup 37 (.map (some b)) (.string (S i)) false).run Try.prog w' = .ok (.bool true) w' := by
  have hk : keyOf Try.prog 9 (.string (S i)) = some (.string (S i).data.toList) := Go.WideMaps.keyOf_string_mk Try.underlying9 hs
  have h' : w'.ownsMap Try.prog 9 boolR b nn N := by
    have hlt := h.lt
    obtain ⟨es, clock, h1, r⟩ := h
    exact ⟨es, clock, (hb.block b hlt).trans h1, r⟩
  obtain ⟨v, ps, hrun, hv⟩ := h'.lookup (string_keyed Try.underlying9) Try.underlying37 (Try.zero4 w') (zd := .lit (.bool false)) (zp := []) rfl hk
  rw [hN.at_ i hi] at hv
  obtain ⟨y, rfl, hy⟩ := boolR_inv hv
  simp only [Prod.mk.injEq, DataW.lit.injEq, Lit.bool.injEq] at hy
  rw [← hy.1] at hrun
  exact hrun

/-! ### The order of strings, as the model has it -/

theorem bytesLess_iff : ∀ a b : List UInt8, Op.bytesLess a b = true ↔ a < b
  | a, [] => by simp [Op.bytesLess]
  | [], b :: bs => by simp [Op.bytesLess]
  | a :: xs, b :: bs => by
    rw [List.cons_lt_cons_iff]
    simp [Op.bytesLess, bytesLess_iff xs bs]

theorem less_of {a b : ByteArray} (h : a.data.toList < b.data.toList) : Op.bytesLess a.toList b.toList = true := by
  rw [ByteArray.toList_eq, ByteArray.toList_eq]
  exact (bytesLess_iff _ _).2 h

/-! ### What zzBuild hands on -/

theorem box_cell (w : World) (v0 v1 : Value) (T : TypeId) : (w.alloc (.cells #[v0, v1] T)).cell? ⟨w.heap.size, 1, none⟩ = some v1 := by
  have h := heap_alloc_new w (.cells #[v0, v1] T)
  simp only [World.cell?, h]
  rfl


theorem schema_of {D : Dat} {n : Nat} {mo : Option Nat} {w : World} (h : (n = 0 ∧ mo = none) ∨ (0 < n ∧ ∃ mb nn M fl, mo = some mb ∧ w.ownsMap Try.prog 9 elemR mb nn M ∧ MapIs n D.S fl M ∧ ∀ i, i < n → w.cell? ⟨fl i, 0, none⟩ = some (.string (D.S i)))) :
    ∃ fl, (∀ sb W, RowKit.Below w.heap.size w W → W.cell? ⟨sb, 1, none⟩ = some (.map mo) → SchemaAt n D.S fl sb W) ∧ ∀ i j, i < n → j < n → (D.S i).data.toList = (D.S j).data.toList → i = j := by
  rcases h with ⟨rfl, rfl⟩ | ⟨h0, mb, nn, M, fl, rfl, hown, hM, hc⟩
  · exact ⟨fun _ => 0, fun sb W _ h => ⟨fun i hi => absurd hi (by omega), fun _ => h, fun h0 => absurd h0 (by omega)⟩, fun i j hi => absurd hi (by omega)⟩
  · exact ⟨fl, fun sb W hb h => ⟨fun i hi => cell_later hb (hc i hi), fun h1 => absurd h1 (by omega), fun _ => ⟨mb, nn, M, h, ownsMap_below hown hb, hM⟩⟩, hM.inj⟩

set_option maxHeartbeats 1000000 in
theorem newSchema_any (mo : Option Nat) (w : World) : Calls Try.prog 13 #[.map mo] w fun e w' => e = .returned (.pointer (some ⟨w.heap.size, 0, none⟩)) ∧ w' = w.alloc (.cells #[.string ⟨#[]⟩, .map mo] 47) := by
  go_enter Try.func13, Try.ntmps13
  go_wp2
  go_ret
  exact ⟨rfl, rfl⟩

set_option maxRecDepth 100000 in
set_option maxHeartbeats 2000000 in
theorem law_any (D : Dat) (a : Option Addr) (n c : Nat) (w : World) (hI : In D a n w) :
    Calls Try.prog 4 #[.slice a n c] w fun e w' => e = .returned (.bool true) ∧ RowKit.Below w.heap.size w w' := by
  have HZ := hide (zzBytes_any D a n c w hI)
  have HDB := hide (defsBytes_any D a n c 0 w hI)
  have HI := hide hI
  clear hI
  have hmm := @run_makeMap Try.prog
  go_enter Try.func4, Try.ntmps4
  go_upto_if 22 with (first
    | (go_at_call 10; refine HZ.out.mono ?_; rintro e w1 ⟨⟨r, rfl⟩, hw⟩; replace hw := hw.symm; subst hw)
    | (go_at_call 11; refine HDB.out.mono ?_; rintro e w1 ⟨⟨z, r2, rfl, hsm⟩, hw⟩; replace hw := hw.symm; subst hw; have HSm := hide hsm; clear hsm))
  all_goals try (go_ret; exact ⟨rfl, RowKit.Below.refl _ _⟩)
  cases r2
  · go_wp2
    go_ret
    exact ⟨rfl, RowKit.Below.refl _ _⟩
  have HSm' := hide (HSm.out rfl)
  have HBu := hide (build_any D a n c w HI.out HSm'.out)
  have hn : n ≤ 4096 := HSm'.out.1
  clear HSm
  go_upto_if 29 with (go_at_call 12; refine HBu.out.mono ?_; rintro e wb ⟨⟨mo, ok, rfl, hok⟩, hbb⟩; have HOk := hide hok; have HBb := hide hbb; clear hok hbb)
  cases ok
  · go_wp2
    go_ret
    exact ⟨rfl, HBb.out⟩
  obtain ⟨fl, hfl, hinj⟩ := schema_of (HOk.out rfl)
  have HF := hide hfl
  have HInj := hide hinj
  clear HOk HBu HZ HDB hfl hinj
  go_wp2
  go_loopw [8] (fun i wr => ∃ (k : Nat) (N : DataW Unit), k ≤ n ∧ i = .int .i64 k ∧ wr.ownsMap Try.prog 9 boolR wb.heap.size k N ∧ NamesIs k D.S N ∧ RowKit.Below wb.heap.size wb wr) (fun i _ => n - (intOf i).toNat)
  case atStart => exact ⟨0, .map [], Nat.zero_le _, rfl, World.ownsMap_made wb Try.prog 9 boolR, NamesIs.empty _, (RowKit.Below.refl _ _).alloc (Nat.le_refl _) _⟩
  case round =>
    obtain ⟨i, N, hi, rfl, hown, hN, hb⟩ := hrel
    by_cases hin : i < n
    · obtain ⟨b, off, rfl, hc⟩ := HI.out.defs (by omega)
      have hi0 : (0 : Int) ≤ (i : Int) := by omega
      have hi1 : (i : Int) < (n : Int) := by omega
      have c0 := cell_later hb (cell_later HBb.out (hc i hin).1)
      obtain ⟨w9, hupd, hown9, hg9⟩ := hown.update (string_keyed Try.underlying9) Try.underlying37 (by unfold maxLen; omega) (key := .string (D.S i)) (val := .bool true) (WideMaps.keyOf_string_mk Try.underlying9 (HI.out.S_le i hin)) (d := .lit (.bool true)) (ps := []) rfl
      have HO := hide (And.intro hown9 (And.intro hN.put (hb.grown hg9 hb.size (fun b' hb' => by cases hb'; exact Nat.le_refl _))))
      clear hc hown hN hb hown9 hg9
      go_wp2
      go_roundw
      case rel => exact ⟨i + 1, _, by omega, by go_num, HO.out.1, HO.out.2.1, HO.out.2.2⟩
      case measure => simp [intOf]; omega
    · have hin' : i = n := by omega
      rw [hin'] at hown hN
      obtain ⟨w3, hw3⟩ : ∃ x, x = wr := ⟨_, rfl⟩
      subst hw3
      have hsb : RowKit.Below w3.heap.size w3 (w3.alloc (.cells #[.string ⟨#[]⟩, .map mo] 47)) := (RowKit.Below.refl _ _).alloc (Nat.le_refl _) _
      have hb4 : RowKit.Below wb.heap.size wb (w3.alloc (.cells #[.string ⟨#[]⟩, .map mo] 47)) := hb.trans (hsb.mono hb.size)
      have hsc := HF.out w3.heap.size _ hb4 (box_cell _ _ _ _)
      have HNS := hide (fun mo => newSchema_any mo w3)
      have HDf := hide (definitions_any n D.S fl w3.heap.size _ hn hsc)
      have HSc := hide hsc
      have HOwn := hide (And.intro hown (And.intro hN (And.intro hsb hb4)))
      clear hown hN hb hsb hb4 hsc
      go_wp2_with (first
        | (go_at_call 13; refine (HNS.out _).mono ?_; rintro e w4 ⟨rfl, hw⟩; subst hw)
        | (go_at_call 14; refine HDf.out.mono ?_; rintro e w5 ⟨⟨ga, gc, rfl, hgot⟩, hb5⟩; have HGot := hide hgot; have HB5 := hide hb5; clear hgot hb5)
        | (go_at_call 15; refine (narrowed_any n D.S fl w3.heap.size w5.heap.size (w5.alloc (.cells #[.string ⟨#[]⟩, .map none] 47)) hn (HSc.out.below (HB5.out.alloc HB5.out.size _)) (box_cell _ _ _ _)).mono ?_; rintro e w7 ⟨⟨na, nc, rfl, hnar⟩, hb7⟩; have HNar := hide hnar; have HB7 := hide hb7; clear hnar hb7))
      have hb57 : RowKit.Below w5.heap.size w5 w7 := ((RowKit.Below.refl _ _).alloc (Nat.le_refl _) _).trans (HB7.out.mono (by simp))
      have hb37 : RowKit.Below w3.heap.size w3 w7 := HOwn.out.2.2.1.trans ((HB5.out.trans (hb57.mono HB5.out.size)).mono (by simp))
      have hbw7 : RowKit.Below w.heap.size w w7 := HBb.out.trans ((HOwn.out.2.2.2.trans ((HB5.out.trans (hb57.mono HB5.out.size)).mono HOwn.out.2.2.2.size)).mono HBb.out.size)
      have hnm : ∀ i, i < n → w7.cell? ⟨fl i, 0, none⟩ = some (.string (D.S i)) := fun i hi => cell_later hb57 (cell_later HB5.out (HSc.out.names i hi))
      have H57 := hide hb57
      have H37 := hide hb37
      have HW7 := hide hbw7
      have HNm := hide hnm
      clear hb57 hb37 hbw7 hnm HNS HDf HSc HB5 HB7 HF HBb
      go_loopw [12] (fun i' wj => ∃ k : Nat, k ≤ n ∧ i' = .int .i64 k ∧ RowKit.Below w7.heap.size w7 wj) (fun i' _ => n - (intOf i').toNat)
      case atStart => exact ⟨0, Nat.zero_le _, rfl, RowKit.Below.refl _ _⟩
      case round =>
        obtain ⟨k, hk, rfl, hbk⟩ := hrel
        by_cases hkn : k < n
        · obtain ⟨g, rfl, hg⟩ := HGot.out (by omega)
          obtain ⟨g2, rfl, hg2⟩ := HNar.out (by omega)
          have hk0 : (0 : Int) ≤ (k : Int) := by omega
          have hk1 : (k : Int) < (n : Int) := by omega
          have c0 := cell_later hbk (cell_later H57.out (hg k hkn))
          have c1 := cell_later hbk (HNm.out _ (pick_lt (S := D.S) hkn))
          have c2 := cell_later hbk (hg2 k hkn)
          have hlook := fun m => look_name HOwn.out.1 HOwn.out.2.1 (pick n D.S k) (pick_lt hkn) (HI.out.S_le _ (pick_lt hkn)) (wr.drewN m) ((H37.out.trans (hbk.mono H37.out.size)).trans (drewN_below _ _ _))
          by_cases hk00 : k = 0
          · have HBK := hide hbk
            clear hbk hg hg2
            subst hk00
            go_wp2
            go_quiet (fail)
            go_wp2
            go_quiet (fail)
            go_wp2
            go_roundw
            case rel => exact ⟨0 + 1, by omega, by go_num, HBK.out.trans (drewN_below _ _ _)⟩
            case measure => simp [intOf]; omega
          · obtain ⟨k', rfl⟩ : ∃ k', k = k' + 1 := ⟨k - 1, by omega⟩
            have c3 := cell_later hbk (hg2 k' (by omega))
            have hless := less_of (pick_asc (S := D.S) HInj.out (Nat.lt_succ_self k') hkn)
            have HBK := hide hbk
            clear hbk hg hg2
            go_wp2
            go_quiet (fail)
            go_wp2
            go_quiet (fail)
            go_wp2
            go_roundw
            case rel => exact ⟨k' + 1 + 1, by omega, by go_num, HBK.out.trans (drewN_below _ _ _)⟩
            case measure => simp [intOf]; omega
        · have HBK := hide hbk
          clear hbk
          go_wp2
          go_ret
          exact ⟨rfl, HW7.out.trans (HBK.out.mono HW7.out.size)⟩
end Go.Proofs.Qxb6613654a.Defs
