/-
  By the prover: zzIsName as a function of the string: so that in a region that draws its order each way gives one answer.
-/
import Derived.Test.Qxb6613654aFmtDefsIn
namespace Go.Proofs.Qxb6613654aFmt.Defs
open Go.RowKit

/-- A letter, a digit or an underscore. -/
def okc (c : Nat) : Prop := (97 ≤ c ∧ c ≤ 122) ∨ (48 ≤ c ∧ c ≤ 57) ∨ c = 95

open Classical in
noncomputable def nameOk (s : ByteArray) : Bool := decide (∃ h : 0 < s.size, 97 ≤ s[0].toNat ∧ s[0].toNat ≤ 122 ∧ ∀ i (hi : i < s.size), 1 ≤ i → okc s[i].toNat)

theorem nameOk_true {s : ByteArray} (h : 0 < s.size) (h1 : 97 ≤ s[0].toNat) (h2 : s[0].toNat ≤ 122) (h3 : ∀ i (hi : i < s.size), 1 ≤ i → okc s[i].toNat) : nameOk s = true := by
  unfold nameOk
  simp only [decide_eq_true_eq]
  exact ⟨h, h1, h2, h3⟩
theorem nameOk_head {s : ByteArray} (h : 0 < s.size) (h1 : s[0].toNat < 97 ∨ 122 < s[0].toNat) : nameOk s = false := by
  unfold nameOk
  simp only [decide_eq_false_iff_not]
  rintro ⟨_, h2, h3, _⟩
  omega
theorem nameOk_at {s : ByteArray} (i : Nat) (hi : i < s.size) (h1 : 1 ≤ i) (h2 : ¬ okc s[i].toNat) : nameOk s = false := by
  unfold nameOk
  simp only [decide_eq_false_iff_not]
  rintro ⟨_, _, _, h3⟩
  exact h2 (h3 i hi h1)
theorem nameOk_empty : nameOk ByteArray.empty = false := by
  unfold nameOk
  simp only [decide_eq_false_iff_not]
  rintro ⟨h, _⟩
  exact absurd h (by decide)

set_option maxHeartbeats 1000000 in
theorem isName_fn (s : ByteArray) (w : World) (hs : s.size ≤ maxLen) : Calls Tryf.prog 19 #[.string s] w fun e w' => e = .returned (.bool (nameOk s)) ∧ w' = w := by
  unfold maxLen at hs
  by_cases h0 : s = ByteArray.empty
  · subst h0
    rw [nameOk_empty]
    go_enter Tryf.func19, Tryf.ntmps19
    go_wp2
    all_goals (go_ret; exact ⟨rfl, rfl⟩)
  · have h1 : 0 < s.size := by
      rcases Nat.eq_zero_or_pos s.size with h | h
      · exact absurd (ByteArray.size_eq_zero_iff.1 h) h0
      · exact h
    by_cases hh : 97 ≤ s[0].toNat ∧ s[0].toNat ≤ 122
    · obtain ⟨ha, hb⟩ := hh
      have ha' : (97 : Int) ≤ (s[0].toNat : Int) := by omega
      have hb' : (s[0].toNat : Int) ≤ 122 := by omega
      have HA := hide (And.intro ha hb)
      clear ha hb
      go_enter Tryf.func19, Tryf.ntmps19
      go_wp2
      · exfalso; rename_i h; simp only [beq_iff_eq] at h; omega
      go_loop [3] (fun i => ∃ j : Nat, 1 ≤ j ∧ j ≤ s.size ∧ i = .int .i64 j ∧ Hid (∀ i (hi : i < s.size), 1 ≤ i → i < j → okc s[i].toNat)) (fun i => s.size - (intOf i).toNat)
      case atStart => exact ⟨1, Nat.le_refl _, h1, rfl, fun i _ h2 h3 => absurd h3 (by omega)⟩
      case round =>
        obtain ⟨j, hj0, hj1, rfl, HK⟩ := hrel
        by_cases hj : j < s.size
        · by_cases hok : okc s[j].toNat
          · have hok' := hok
            unfold okc at hok'
            go_wp2
            all_goals first
              | (exfalso; simp only [Bool.not_eq_true', Bool.not_eq_false', decide_eq_true_eq, decide_eq_false_iff_not, beq_iff_eq, beq_eq_false_iff_ne, ne_eq] at *; omega)
              | (go_round
                 case rel => exact ⟨j + 1, by omega, by omega, by go_num, fun i hi h2 h3 => (by
                   by_cases e : i = j
                   · subst e; exact hok
                   · exact HK.out i hi h2 (by omega))⟩
                 case measure => simp [intOf]; omega)
          · have HN := hide (nameOk_at j hj hj0 hok)
            have hok' := hok
            unfold okc at hok'
            go_wp2
            all_goals first
              | (go_ret; rw [HN.out]; exact ⟨rfl, rfl⟩)
              | (exfalso; simp only [Bool.not_eq_false', decide_eq_true_eq, beq_iff_eq, beq_eq_false_iff_ne, ne_eq] at *; omega)
        · have HN := hide (nameOk_true h1 HA.out.1 HA.out.2 (fun i hi h2 => HK.out i hi h2 (by omega)))
          go_wp2
          go_ret; rw [HN.out]; exact ⟨rfl, rfl⟩
    · rw [nameOk_head h1 (by omega)]
      go_enter Tryf.func19, Tryf.ntmps19
      go_wp2
      all_goals first
        | (go_ret; exact ⟨rfl, rfl⟩)
        | (exfalso; simp only [Bool.not_eq_true', Bool.not_eq_false', decide_eq_true_eq, decide_eq_false_iff_not, beq_iff_eq, beq_eq_false_iff_ne, ne_eq] at *; omega)
end Go.Proofs.Qxb6613654aFmt.Defs
