/-
  By the prover: THE WALK of the law FnDefinitionsListsEveryTypeOnceByName: whatever []Def and name come in it answers true.
-/
import Derived.Test.Qxb6613654aFmtDefsBuild
import Derived.Test.Qxb6613654aFmtDefsList
import Derived.Test.Qxb6613654aFmtDefsZz
import Derived.Test.Qxb6613654aFmtDefsFind
import Derived.Deep.DeepCutAuto
import Derived.LaidEqlPtr
namespace Go.Proofs.Qxb6613654aFmt.Defs
open Go.RowKit Go.Maps Go.Deep Go.Extern.Stop Go.Stop Go.Extern

/-! ### The order of strings, as the model has it -/

theorem bytesLess_iff : ∀ a b : List UInt8, Op.bytesLess a b = true ↔ a < b
  | a, [] => by simp [Op.bytesLess]
  | [], b :: bs => by simp [Op.bytesLess]
  | a :: xs, b :: bs => by
    rw [List.cons_lt_cons_iff]
    simp [Op.bytesLess, bytesLess_iff xs bs]

theorem less_of {a b : ByteArray} (h : a.data.toList < b.data.toList) : Op.bytesLess a.toList b.toList = true := by
  rw [ByteArray.toList_eq, ByteArray.toList_eq]
  exact (bytesLess_iff _ _).2 h

/-! ### Whose block a name leads to -/

open Classical in
noncomputable def who (n : Nat) (S : Nat → ByteArray) (fl : Nat → Nat) (x : List UInt8) : Option Nat :=
  if h : ∃ i, i < n ∧ (S i).data.toList = x then some (fl (Classical.choose h)) else none

theorem who_name {n : Nat} {S : Nat → ByteArray} {fl : Nat → Nat} (hN : ∀ i j, i < n → j < n → (S i).data.toList = (S j).data.toList → i = j) {i : Nat} (hi : i < n) : who n S fl (S i).data.toList = some (fl i) := by
  have h : ∃ j, j < n ∧ (S j).data.toList = (S i).data.toList := ⟨i, hi, rfl⟩
  unfold who
  rw [dif_pos h]
  have hs := Classical.choose_spec h
  rw [hN _ i hs.1 hi hs.2]

theorem who_none {n : Nat} {S : Nat → ByteArray} {fl : Nat → Nat} {x : List UInt8} (h : ∀ i, i < n → (S i).data.toList ≠ x) : who n S fl x = none := by
  unfold who
  rw [dif_neg]
  rintro ⟨i, hi, e⟩
  exact h i hi e

theorem look_who {n : Nat} {S : Nat → ByteArray} {fl : Nat → Nat} {w : World} {b nn : Nat} {M : DataW Unit} (h : w.ownsMap Tryf.prog 9 elemR b nn M) (hM : MapIs n S fl M) (s : ByteArray) (hs : s.size ≤ maxLen) (W : World) (hb : RowKit.Below w.heap.size w W) :
    (Instr.lookup 39 (.map (some b)) (.string s) false).run Tryf.prog W = .ok (ptr (who n S fl s.data.toList)) W := by
  obtain ⟨x, hx, hrun⟩ := look_uni Tryf.underlying39 Tryf.zero42 (owns_below h hb) s hs
  have hw : x = who n S fl s.data.toList := by
    rcases hM.look s.data.toList with ⟨hno, hnil⟩ | ⟨i, hi, he, hat⟩
    · rw [who_none fun i hi e => by
        have := hM.hasI i hi
        rw [e, hno] at this
        cases this]
      exact ptrD_inj (hx.trans hnil)
    · rw [← he, who_name hM.inj hi]
      exact ptrD_inj (hx.trans hat)
  rw [← hw]
  exact hrun W rfl

theorem look_nil (s : ByteArray) (w : World) : (Instr.lookup 39 (.map none) (.string s) false).run Tryf.prog w = .ok (.pointer none) w := by kernel_rfl

/-! ### One pointer against itself -/

theorem equal42 (a : Addr) (w : World) (d : Nat) : (Op.equalIn (d + 1) 42 (.pointer (some a)) (.pointer (some a))).run Tryf.prog w = .ok true w := by
  have h : (Tryf.prog.info? 53).isSome = true := by kernel_rfl
  obtain ⟨j, hj⟩ := Option.isSome_iff_exists.1 h
  simp [Op.equalIn, run_underlying Tryf.underlying42, sizeOf, typeInfo, hj, run_sameAddr_same]
theorem eql42 (a : Addr) (w : World) : (binOp .eql 42 (.pointer (some a)) (.pointer (some a))).run Tryf.prog w = .ok (.bool true) w := by
  simp only [binOp]
  simp [Op.equal, Op.maxDepth, equal42 a w 9999]
theorem neq42 (a : Addr) (w : World) : (binOp .neq 42 (.pointer (some a)) (.pointer (some a))).run Tryf.prog w = .ok (.bool false) w := by
  simp only [binOp]
  simp [Op.equal, Op.maxDepth, equal42 a w 9999]

/-! ### What zzBuild hands on -/


theorem box_cell (w : World) (v0 v1 : Value) (T : TypeId) : (w.alloc (.cells #[v0, v1] T)).cell? ⟨w.heap.size, 1, none⟩ = some v1 := by
  have h := heap_alloc_new w (.cells #[v0, v1] T)
  simp only [World.cell?, h]
  rfl

structure Held (D : Dat) (n : Nat) (mo : Option Nat) (fl : Nat → Nat) (w : World) : Prop where
  names : ∀ i, i < n → w.cell? ⟨fl i, 0, none⟩ = some (.string (D.S i))
  inj : ∀ i j, i < n → j < n → (D.S i).data.toList = (D.S j).data.toList → i = j
  look : ∀ W, RowKit.Below w.heap.size w W → ∀ s : ByteArray, s.size ≤ maxLen → (Instr.lookup 39 (.map mo) (.string s) false).run Tryf.prog W = .ok (ptr (who n D.S fl s.data.toList)) W
  schema : ∀ sb W, RowKit.Below w.heap.size w W → W.cell? ⟨sb, 1, none⟩ = some (.map mo) → SchemaAt n D.S fl sb W

theorem held_of {D : Dat} {n : Nat} {mo : Option Nat} {w : World} (h : (n = 0 ∧ mo = none) ∨ (0 < n ∧ ∃ mb nn M fl, mo = some mb ∧ w.ownsMap Tryf.prog 9 elemR mb nn M ∧ MapIs n D.S fl M ∧ ∀ i, i < n → w.cell? ⟨fl i, 0, none⟩ = some (.string (D.S i)))) :
    ∃ fl, Held D n mo fl w := by
  rcases h with ⟨rfl, rfl⟩ | ⟨h0, mb, nn, M, fl, rfl, hown, hM, hc⟩
  · refine ⟨fun _ => 0, fun i hi => absurd hi (by omega), fun i j hi => absurd hi (by omega), fun W _ s _ => ?_, fun sb W _ h => ⟨fun i hi => absurd hi (by omega), fun _ => h, fun h0 => absurd h0 (by omega)⟩⟩
    rw [who_none fun i hi => absurd hi (by omega)]
    exact look_nil s W
  · exact ⟨fl, hc, hM.inj, fun W hb s hs => look_who hown hM s hs W hb, fun sb W hb h => ⟨fun i hi => cell_later hb (hc i hi), fun h1 => absurd h1 (by omega), fun _ => ⟨mb, nn, M, h, ownsMap_below hown hb, hM⟩⟩⟩

/-- One name more in the map that the law keeps. -/
theorem want_put {n k : Nat} {S : Nat → ByteArray} {fl : Nat → Nat} {N : DataW Unit} (hN : ∀ i j, i < n → j < n → (S i).data.toList = (S j).data.toList → i = j) (hk : k < n) (h : MapIs k S fl N) :
    MapIs (k + 1) S fl (N.put (.string (S k).data.toList) (ptrD (some (fl k)))) := by
  have hno : has N (.string (S k).data.toList) = false := by
    cases hx : has N (.string (S k).data.toList)
    · rfl
    · obtain ⟨i, hi, e⟩ := h.has_ _ hx
      have := hN i k (by omega) hk e
      omega
  have hp := h.put (fl k) hno
  have hf : (fun i => if i = k then fl k else fl i) = fl := by
    funext i
    by_cases e : i = k
    · subst e; simp
    · simp [e]
  rw [hf] at hp
  exact hp

set_option maxHeartbeats 1000000 in
theorem newSchema_any (mo : Option Nat) (w : World) : Calls Tryf.prog 14 #[.map mo] w fun e w' => e = .returned (.pointer (some ⟨w.heap.size, 0, none⟩)) ∧ w' = w.alloc (.cells #[.string ⟨#[]⟩, .map mo] 76) := by
  go_enter Tryf.func14, Tryf.ntmps14
  go_wp2
  go_ret
  exact ⟨rfl, rfl⟩

set_option maxRecDepth 100000 in
set_option maxHeartbeats 2000000 in
theorem law_any (F : Interp) (D : Dat) (a : Option Addr) (n c : Nat) (o t : ByteArray) (ea : Addr) (w : World) (hF : F.answers w.tape) (hI : In D a n w) (ho : o.size ≤ maxLen)
    (hg0 : w.cell? ⟨0, 0, none⟩ = some (.iface 114 (.pointer (some ea)))) (ht0 : w.cell? ea = some (.string t)) :
    Calls Tryf.prog 4 #[.slice a n c, .string o] w fun e w' => e = .returned (.bool true) ∧ RowKit.Below w.heap.size w w' := by
  have HZ := hide (zzBytes_any D a n c o w hI)
  have HDB := hide (defsBytes_any D a n c 0 w hI)
  have HI := hide hI
  have HErr := hide (And.intro hF (And.intro hg0 ht0))
  have Ho := hide ho
  clear hI hF hg0 ht0 ho
  have hmm := @run_makeMap Tryf.prog
  have heq := eql42
  have hne := neq42
  go_enter Tryf.func4, Tryf.ntmps4
  go_upto_if 28 with (first
    | (go_at_call 11; refine HZ.out.mono ?_; rintro e w1 ⟨⟨r, rfl⟩, hw⟩; replace hw := hw.symm; subst hw)
    | (go_at_call 12; refine HDB.out.mono ?_; rintro e w1 ⟨⟨z, r2, rfl, hsm⟩, hw⟩; replace hw := hw.symm; subst hw; have HSm := hide hsm; clear hsm))
  all_goals try (go_ret; exact ⟨rfl, RowKit.Below.refl _ _⟩)
  cases r2
  · go_wp2
    go_ret
    exact ⟨rfl, RowKit.Below.refl _ _⟩
  have HSm' := hide (HSm.out rfl)
  have HBu := hide (build_any D a n c w HI.out HSm'.out)
  have hn : n ≤ 4096 := HSm'.out.1
  clear HSm
  go_upto_if 41 with (go_at_call 13; refine HBu.out.mono ?_; rintro e wb ⟨⟨mo, ok, rfl, hok⟩, hbb⟩; have HOk := hide hok; have HBb := hide hbb; clear hok hbb)
  all_goals try (go_ret; exact ⟨rfl, RowKit.Below.refl _ _⟩)
  cases ok
  · go_wp2
    go_ret
    exact ⟨rfl, HBb.out⟩
  obtain ⟨fl, hheld⟩ := held_of (HOk.out rfl)
  have HH := hide hheld
  clear HOk HBu HZ HDB hheld
  go_wp2
  go_loopw [9] (fun i wr => ∃ (k : Nat) (N : DataW Unit), k ≤ n ∧ i = .int .i64 k ∧ wr.ownsMap Tryf.prog 9 elemR wb.heap.size k N ∧ MapIs k D.S fl N ∧ RowKit.Below wb.heap.size wb wr) (fun i _ => n - (intOf i).toNat)
  case atStart => exact ⟨0, .map [], Nat.zero_le _, rfl, World.ownsMap_made wb Tryf.prog 9 elemR, MapIs.empty _ _, (RowKit.Below.refl _ _).alloc (Nat.le_refl _) _⟩
  case round =>
    obtain ⟨i, N, hi, rfl, hown, hN, hb⟩ := hrel
    by_cases hin : i < n
    · obtain ⟨b, off, rfl, hc⟩ := HI.out.defs (by omega)
      have hi0 : (0 : Int) ≤ (i : Int) := by omega
      have hi1 : (i : Int) < (n : Int) := by omega
      have c0 := cell_later hb (cell_later HBb.out (hc i hin).1)
      have hlook := HH.out.look wr.drew hb.drew (D.S i) (HI.out.S_le i hin)
      rw [who_name HH.out.inj hin] at hlook
      simp only [ptr, Option.map_some] at hlook
      obtain ⟨w9, hupd, hown9, hg9⟩ := hown.drew.update (string_keyed Tryf.underlying9) Tryf.underlying39 (by unfold maxLen; omega) (key := .string (D.S i)) (val := .pointer (some ⟨fl i, 0, none⟩)) (WideMaps.keyOf_string_mk Tryf.underlying9 (HI.out.S_le i hin)) (d := ptrD (some (fl i))) (ps := []) rfl
      have HO := hide (And.intro hown9 (And.intro (want_put HH.out.inj hin hN) (hb.drew.grown hg9 hb.drew.size (fun b' hb' => by cases hb'; exact Nat.le_refl _))))
      clear hc hown hN hb hown9 hg9
      go_wp2
      go_region
      go_wp2
      go_roundw
      case rel => exact ⟨i + 1, _, by omega, by go_num, HO.out.1, HO.out.2.1, HO.out.2.2⟩
      case measure => simp [intOf]; omega
    · have hin' : i = n := by omega
      rw [hin'] at hown hN
      obtain ⟨w3, hw3⟩ : ∃ x, x = wr := ⟨_, rfl⟩
      subst hw3
      have hsb : RowKit.Below w3.heap.size w3 (w3.alloc (.cells #[.string ⟨#[]⟩, .map mo] 76)) := (RowKit.Below.refl _ _).alloc (Nat.le_refl _) _
      have hb4 : RowKit.Below wb.heap.size wb (w3.alloc (.cells #[.string ⟨#[]⟩, .map mo] 76)) := hb.trans (hsb.mono hb.size)
      have hbox := box_cell w3 (.string ⟨#[]⟩) (.map mo) 76
      have hsc := HH.out.schema w3.heap.size _ hb4 hbox
      have HNS := hide (fun mo => newSchema_any mo w3)
      have HDf := hide (definitions_any n D.S fl w3.heap.size _ hn hsc)
      have HOwn := hide (And.intro hown (And.intro hN (And.intro hsb (And.intro hb4 hbox))))
      clear hown hN hb hsb hb4 hsc hbox
      go_wp2_with (first
        | (go_at_call 14; refine (HNS.out _).mono ?_; rintro e w4 ⟨rfl, hw⟩; subst hw)
        | (go_at_call 15; refine HDf.out.mono ?_; rintro e w5 ⟨⟨ga, gc, rfl, hgot⟩, hb5⟩; have HGot := hide hgot; have HB5 := hide hb5; clear hgot hb5))
      have hb35 : RowKit.Below w3.heap.size w3 w5 := HOwn.out.2.2.1.trans (HB5.out.mono (by simp))
      have hbb5 : RowKit.Below wb.heap.size wb w5 := HOwn.out.2.2.2.1.trans (HB5.out.mono HOwn.out.2.2.2.1.size)
      have hbw5 : RowKit.Below w.heap.size w w5 := HBb.out.trans (hbb5.mono HBb.out.size)
      have hcm : w5.cell? ⟨w3.heap.size, 1, none⟩ = some (.map mo) := cell_later HB5.out HOwn.out.2.2.2.2
      have H35 := hide hb35
      have HB5b := hide hbb5
      have HW5 := hide hbw5
      have HCM := hide hcm
      clear hb35 hbb5 hbw5 hcm HNS HDf HB5 HBb
      go_loopw [12] (fun i' wj => ∃ k : Nat, k ≤ n ∧ i' = .int .i64 k ∧ RowKit.Below w5.heap.size w5 wj) (fun i' _ => n - (intOf i').toNat)
      case atStart => exact ⟨0, Nat.zero_le _, rfl, RowKit.Below.refl _ _⟩
      case round =>
        obtain ⟨k, hk, rfl, hbk⟩ := hrel
        by_cases hkn : k < n
        · obtain ⟨g, rfl, hg⟩ := HGot.out (by omega)
          have hk0 : (0 : Int) ≤ (k : Int) := by omega
          have hk1 : (k : Int) < (n : Int) := by omega
          have hp := pick_lt (S := D.S) hkn
          have hps := HI.out.S_le _ hp
          have hbm : ∀ m, RowKit.Below w5.heap.size w5 (wr.drewN m) := fun m => hbk.trans (drewN_below _ _ _)
          have c0 := cell_later hbk (hg k hkn)
          have c1 := cell_later hbk (cell_later HB5b.out (HH.out.names _ hp))
          have hwant := look_who HOwn.out.1 HOwn.out.2.1 (D.S (pick n D.S k)) hps wr (H35.out.trans (hbk.mono H35.out.size))
          have hfind := fun m => definition_found w3.heap.size (fl (pick n D.S k)) mo (D.S (pick n D.S k)) (wr.drewN m) (cell_later (hbm m) HCM.out) (by
            have h := HH.out.look (wr.drewN m) (HB5b.out.trans ((hbm m).mono HB5b.out.size)) (D.S (pick n D.S k)) hps
            rw [who_name HH.out.inj hp] at h
            exact h)
          rw [who_name HH.out.inj hp] at hwant
          simp only [ptr, Option.map_some] at hwant
          have HFind := hide hfind
          have HBM := hide hbm
          by_cases hk00 : k = 0
          · clear hbk hg hfind hbm
            subst hk00
            go_wp2
            go_quiet (fail)
            go_wp2_with (go_at_call 16; refine (HFind.out _).mono ?_; rintro e w6 ⟨rfl, hw⟩; subst hw)
            go_roundw
            case rel => exact ⟨0 + 1, by omega, by go_num, HBM.out _⟩
            case measure => simp [intOf]; omega
          · obtain ⟨k', rfl⟩ : ∃ k', k = k' + 1 := ⟨k - 1, by omega⟩
            have hp' := pick_lt (S := D.S) (j := k') (n := n) (by omega)
            have c3 := cell_later hbk (hg k' (by omega))
            have c4 := cell_later hbk (cell_later HB5b.out (HH.out.names _ hp'))
            have hless := less_of (pick_asc (S := D.S) HH.out.inj (Nat.lt_succ_self k') hkn)
            clear hbk hg hfind hbm
            go_wp2
            go_quiet (fail)
            go_wp2_with (go_at_call 16; refine (HFind.out _).mono ?_; rintro e w6 ⟨rfl, hw⟩; subst hw)
            go_roundw
            case rel => exact ⟨k' + 1 + 1, by omega, by go_num, HBM.out _⟩
            case measure => simp [intOf]; omega
        · have hbw : RowKit.Below w.heap.size w wr := HW5.out.trans (hbk.mono HW5.out.size)
          have hwant : ∀ W, RowKit.Below wr.heap.size wr W → (Instr.lookup 39 (.map (some wb.heap.size)) (.string o) false).run Tryf.prog W = .ok (ptr (who n D.S fl o.data.toList)) W := fun W hW =>
            look_who HOwn.out.1 HOwn.out.2.1 o Ho.out W ((H35.out.trans (hbk.mono H35.out.size)).trans (hW.mono (Nat.le_trans H35.out.size hbk.size)))
          have hlk := HH.out.look wr (HB5b.out.trans (hbk.mono HB5b.out.size)) o Ho.out
          have hcm := cell_later hbk HCM.out
          have HBW := hide hbw
          have hF : F.answers wr.tape := by rw [hbw.tape]; exact HErr.out.1
          have hg0 := cell_later hbw HErr.out.2.1
          have ht0 := cell_later hbw HErr.out.2.2
          cases hx : who n D.S fl o.data.toList with
          | none =>
            rw [hx] at hlk hwant
            simp only [ptr, Option.map_none] at hlk hwant
            have HD := hide (definition_none F w3.heap.size mo o t ea wr hF hcm hlk hg0 ht0)
            have HWt := hide hwant
            clear hbk hbw hwant hlk hcm hF hg0 ht0
            go_wp2_with (go_at_call 16; refine HD.out.mono ?_; rintro e w6 ⟨⟨eb, rfl⟩, hb6⟩; have hw6 := HWt.out w6 hb6; have HB6 := hide hb6; clear hb6)
            go_ret
            exact ⟨rfl, HBW.out.trans (HB6.out.mono HBW.out.size)⟩
          | some f =>
            rw [hx] at hlk hwant
            simp only [ptr, Option.map_some] at hlk hwant
            have hwr := hwant wr (RowKit.Below.refl _ _)
            have HD := hide (definition_found w3.heap.size f mo o wr hcm hlk)
            clear hbk hbw hwant hlk hcm hF hg0 ht0
            go_wp2_with (go_at_call 16; refine HD.out.mono ?_; rintro e w6 ⟨rfl, hw⟩; replace hw := hw.symm; subst hw)
            go_ret
            exact ⟨rfl, HBW.out⟩
end Go.Proofs.Qxb6613654aFmt.Defs
