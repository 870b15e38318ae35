/-
  By the prover: THE MAP from names to definitions, as a datum: n names that differ, each with its block.
-/
import Derived.Test.Qxb6613654aFmtDefsSeq
import Derived.Test.Qxb6613654aFmtDefsOrder
import Derived.Maps.Views
namespace Go.Proofs.Qxb6613654aFmt.Defs
open Go.Maps

/-- The datum holds just the n names, each with its block; no two names are one. -/
structure MapIs (n : Nat) (S : Nat → ByteArray) (fl : Nat → Nat) (D : DataW Unit) : Prop where
  tidy : Tidy D
  sz : Maps.size D ≤ n
  at_ : ∀ i, i < n → ∀ z, D.atKey (.string (S i).data.toList) z = ptrD (some (fl i))
  has_ : ∀ x, has D (.string x) = true → ∃ i, i < n ∧ (S i).data.toList = x
  hasI : ∀ i, i < n → has D (.string (S i).data.toList) = true
  inj : ∀ i j, i < n → j < n → (S i).data.toList = (S j).data.toList → i = j

theorem MapIs.empty (S : Nat → ByteArray) (fl : Nat → Nat) : MapIs 0 S fl (.map []) :=
  ⟨tidy_empty, Nat.le_refl _, fun i h => absurd h (by omega), fun x h => by simp [has] at h, fun i h => absurd h (by omega), fun i j h => absurd h (by omega)⟩

/-- What a look-up reads as. -/
theorem MapIs.look {n : Nat} {S : Nat → ByteArray} {fl : Nat → Nat} {D : DataW Unit} (h : MapIs n S fl D) (x : List UInt8) :
    (has D (.string x) = false ∧ D.atKey (.string x) .nil = .nil) ∨ ∃ i, i < n ∧ (S i).data.toList = x ∧ D.atKey (.string x) .nil = ptrD (some (fl i)) := by
  cases hx : has D (.string x)
  · exact .inl ⟨rfl, atKey_of_not_has hx _⟩
  · obtain ⟨i, hi, rfl⟩ := h.has_ x hx
    exact .inr ⟨i, hi, rfl, h.at_ i hi _⟩

/-- A look-up's value: nil where the name is none of them, else its block. -/
theorem MapIs.value {n : Nat} {S : Nat → ByteArray} {fl : Nat → Nat} {D : DataW Unit} (h : MapIs n S fl D) (x : List UInt8) {v : Value} {ps : List MemPlace} (hv : elemR v = some (D.atKey (.string x) .nil, ps)) :
    (has D (.string x) = false ∧ v = .pointer none) ∨ ∃ i, i < n ∧ (S i).data.toList = x ∧ v = .pointer (some ⟨fl i, 0, none⟩) := by
  obtain ⟨y, rfl, hy⟩ := elemR_inv hv
  have hy1 : D.atKey (.string x) .nil = ptrD y := (Prod.mk.inj hy).1
  rcases h.look x with ⟨h1, h2⟩ | ⟨i, hi, hx, h2⟩
  · rw [h2] at hy1
    obtain rfl : none = y := ptrD_inj hy1
    exact .inl ⟨h1, rfl⟩
  · rw [h2] at hy1
    obtain rfl : some (fl i) = y := ptrD_inj hy1
    exact .inr ⟨i, hi, hx, rfl⟩

theorem MapIs.put {n : Nat} {S : Nat → ByteArray} {fl : Nat → Nat} {D : DataW Unit} (h : MapIs n S fl D) (f : Nat) (hn : has D (.string (S n).data.toList) = false) :
    MapIs (n + 1) S (fun i => if i = n then f else fl i) (D.put (.string (S n).data.toList) (ptrD (some f))) := by
  have hk : WideAt.IsKeyLit (.string (S n).data.toList) := trivial
  have hne : ∀ i, i < n → (S i).data.toList ≠ (S n).data.toList := fun i hi e => by
    have := h.hasI i hi
    rw [e, hn] at this
    cases this
  have hneL : ∀ i, i < n → Lit.string (S i).data.toList ≠ Lit.string (S n).data.toList := fun i hi e => hne i hi (by simpa using e)
  refine ⟨h.tidy.put hk _, ?_, ?_, ?_, ?_, ?_⟩
  · rw [size_put h.tidy, hn]
    have := h.sz
    simp
    omega
  · intro i hi z
    by_cases e : i = n
    · subst e
      simp only [if_true]
      exact atKey_put_same h.tidy.isMap hk _ _
    · simp only [e, if_false]
      rw [atKey_put_other (hneL i (by omega)), h.at_ i (by omega)]
  · intro x hx
    by_cases e : x = (S n).data.toList
    · exact ⟨n, by omega, e.symm⟩
    · rw [has_put_other (by simpa using e)] at hx
      obtain ⟨i, hi, hx'⟩ := h.has_ x hx
      exact ⟨i, by omega, hx'⟩
  · intro i hi
    by_cases e : i = n
    · subst e
      exact has_put_same h.tidy.isMap hk _
    · rw [has_put_other (hneL i (by omega))]
      exact h.hasI i (by omega)
  · intro i j hi hj e
    by_cases e1 : i = n
    · by_cases e2 : j = n
      · omega
      · subst e1
        exact absurd e.symm (hne j (by omega))
    · by_cases e2 : j = n
      · subst e2
        exact absurd e (hne i (by omega))
      · exact h.inj i j (by omega) (by omega) e

/-- All that a range over the map gives: each block once, in some order. -/
theorem MapIs.all {n : Nat} {S : Nat → ByteArray} {fl : Nat → Nat} {D : DataW Unit} (h : MapIs n S fl D) {ps : List (List UInt8 × Option Nat)} (ha : AllOf D ps) :
    ∃ l : List (Fin n), l.Perm (List.finRange n) ∧ ps.map (·.2) = l.map fun i : Fin n => some (fl i) := by
  obtain ⟨hnd, hiff, hval⟩ := ha
  have each : ∀ p ∈ ps, ∃ i : Fin n, p = ((S i).data.toList, some (fl i)) := fun p hp => by
    obtain ⟨i, hi, hx⟩ := h.has_ p.1 ((hiff p.1).1 (List.mem_map.2 ⟨p, hp, rfl⟩))
    have e1 := hval p hp .nil
    rw [← hx, h.at_ i hi] at e1
    have e2 := ptrD_inj e1
    exact ⟨⟨i, hi⟩, by rw [Prod.ext_iff]; exact ⟨hx.symm, e2.symm⟩⟩
  have lst : ∀ qs : List (List UInt8 × Option Nat), (∀ p ∈ qs, ∃ i : Fin n, p = ((S i).data.toList, some (fl i))) → ∃ l : List (Fin n), qs = l.map fun i : Fin n => ((S i).data.toList, some (fl i)) := by
    intro qs
    induction qs with
    | nil => exact fun _ => ⟨[], rfl⟩
    | cons p qs ih =>
      intro hq
      obtain ⟨i, hi⟩ := hq p (List.mem_cons_self ..)
      obtain ⟨l, hl⟩ := ih (fun q hq' => hq q (List.mem_cons_of_mem _ hq'))
      exact ⟨i :: l, by rw [List.map_cons, ← hi, ← hl]⟩
  obtain ⟨l, rfl⟩ := lst ps each
  refine ⟨l, ?_, by simp [Function.comp_def]⟩
  have hnd2 : l.Nodup := by
    have : (l.map fun i : Fin n => (S i).data.toList).Nodup := by simpa [Function.comp_def] using hnd
    exact List.Pairwise.of_map _ (fun a b hab e => hab (by rw [e])) this
  refine (List.perm_ext_iff_of_nodup hnd2 (List.nodup_finRange n)).2 fun i => ⟨fun _ => List.mem_finRange i, fun _ => ?_⟩
  have hm := (hiff (S i).data.toList).2 (h.hasI i i.2)
  simp only [List.map_map, List.mem_map, Function.comp_def] at hm
  obtain ⟨j, hj, e⟩ := hm
  have := h.inj j i j.2 i.2 e
  obtain rfl : j = i := Fin.ext this
  exact hj
end Go.Proofs.Qxb6613654aFmt.Defs
