/-
  By the prover: THE INPUT of the laws over []Def: how it lies in memory; zzIsName, zzDefsBytes: they only read.
-/
import Derived.Test.Qxb6613654aFmtRows
import Derived.WalkKit
import Derived.WalkSpells
import Derived.WalkLawsBesides
import Derived.RegionTactic
import Derived.Deep.QuietTactic
import Derived.BigQuiet
namespace Go.Proofs.Qxb6613654aFmt.Defs
open Go.RowKit

theorem hide {p : Prop} (h : p) : Hid p := h

/-- What a []Def says. -/
structure Dat where
  S : Nat → ByteArray
  ra : Nat → Option Addr
  rn : Nat → Nat
  rc : Nat → Nat
  rs : Nat → Nat → ByteArray
  ta : Nat → Nat → Option Addr
  tn : Nat → Nat → Nat
  tc : Nat → Nat → Nat
  ty : Nat → Nat → Nat → ByteArray
  wc : Nat → Nat → Nat → Bool
  re : Nat → Nat → Nat → ByteArray

/-- How it lies in memory. -/
structure In (D : Dat) (a : Option Addr) (n : Nat) (w : World) : Prop where
  defs : 0 < n → ∃ b off, a = some ⟨b, off, none⟩ ∧ ∀ i, i < n → w.cell? ⟨b, off + i * 2, none⟩ = some (.string (D.S i)) ∧ w.cell? ⟨b, off + i * 2 + 1, none⟩ = some (.slice (D.ra i) (D.rn i) (D.rc i))
  rels : ∀ i, i < n → 0 < D.rn i → ∃ b off, D.ra i = some ⟨b, off, none⟩ ∧ ∀ j, j < D.rn i → w.cell? ⟨b, off + j * 2, none⟩ = some (.string (D.rs i j)) ∧ w.cell? ⟨b, off + j * 2 + 1, none⟩ = some (.slice (D.ta i j) (D.tn i j) (D.tc i j))
  types : ∀ i j, i < n → j < D.rn i → 0 < D.tn i j → ∃ b off, D.ta i j = some ⟨b, off, none⟩ ∧ ∀ k, k < D.tn i j → w.cell? ⟨b, off + k * 3, none⟩ = some (.string (D.ty i j k)) ∧ w.cell? ⟨b, off + k * 3 + 1, none⟩ = some (.bool (D.wc i j k)) ∧ w.cell? ⟨b, off + k * 3 + 2, none⟩ = some (.string (D.re i j k))
  n_le : n ≤ maxLen
  S_le : ∀ i, i < n → (D.S i).size ≤ maxLen
  rn_le : ∀ i, i < n → D.rn i ≤ maxLen
  rs_le : ∀ i j, i < n → j < D.rn i → (D.rs i j).size ≤ maxLen
  tn_le : ∀ i j, i < n → j < D.rn i → D.tn i j ≤ maxLen
  ty_le : ∀ i j k, i < n → j < D.rn i → k < D.tn i j → (D.ty i j k).size ≤ maxLen
  re_le : ∀ i j k, i < n → j < D.rn i → k < D.tn i j → (D.re i j k).size ≤ maxLen

theorem In.below {D : Dat} {a : Option Addr} {n : Nat} {w w' : World} (h : In D a n w) (hb : Below w.heap.size w w') : In D a n w' where
  defs := fun h0 => by
    obtain ⟨b, off, e, hc⟩ := h.defs h0
    exact ⟨b, off, e, fun i hi => ⟨cell_later hb (hc i hi).1, cell_later hb (hc i hi).2⟩⟩
  rels := fun i hi h0 => by
    obtain ⟨b, off, e, hc⟩ := h.rels i hi h0
    exact ⟨b, off, e, fun i hi => ⟨cell_later hb (hc i hi).1, cell_later hb (hc i hi).2⟩⟩
  types := fun i j hi hj h0 => by
    obtain ⟨b, off, e, hc⟩ := h.types i j hi hj h0
    exact ⟨b, off, e, fun i hi => ⟨cell_later hb (hc i hi).1, cell_later hb (hc i hi).2.1, cell_later hb (hc i hi).2.2⟩⟩
  n_le := h.n_le
  S_le := h.S_le
  rn_le := h.rn_le
  rs_le := h.rs_le
  tn_le := h.tn_le
  ty_le := h.ty_le
  re_le := h.re_le

/-- It returned a bool. -/
def RetBool (e : Ending) : Prop := ∃ r, e = .returned (.bool r)

set_option maxHeartbeats 1000000 in
theorem isName_any (s : ByteArray) (w : World) (hs : s.size ≤ maxLen) : Calls Tryf.prog 19 #[.string s] w fun e w' => RetBool e ∧ w' = w := by
  unfold maxLen at hs
  by_cases h0 : s = ByteArray.empty
  · subst h0
    go_enter Tryf.func19, Tryf.ntmps19
    go_wp2
    all_goals (go_ret; exact ⟨⟨_, rfl⟩, rfl⟩)
  · have h1 : 0 < s.size := by
      rcases Nat.eq_zero_or_pos s.size with h | h
      · exact absurd (ByteArray.size_eq_zero_iff.1 h) h0
      · exact h
    go_enter Tryf.func19, Tryf.ntmps19
    go_wp2
    all_goals try (go_ret; exact ⟨⟨_, rfl⟩, rfl⟩)
    go_loop [3] (fun i => ∃ j : Nat, 1 ≤ j ∧ j ≤ s.size ∧ i = .int .i64 j) (fun i => s.size - (intOf i).toNat)
    case atStart => exact ⟨1, Nat.le_refl _, h1, rfl⟩
    case round =>
      obtain ⟨j, hj0, hj1, rfl⟩ := hrel
      by_cases hj : j < s.size
      · go_wp2
        all_goals first
          | (go_ret; exact ⟨⟨_, rfl⟩, rfl⟩)
          | (go_round
             case rel => exact ⟨j + 1, by omega, by omega, by go_num⟩
             case measure => simp [intOf]; omega)
      · go_wp2
        go_ret; exact ⟨⟨_, rfl⟩, rfl⟩
end Go.Proofs.Qxb6613654aFmt.Defs
