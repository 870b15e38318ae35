/-
  By the prover: an array of integers, by value, opened.
-/
import Derived.Test.Qxb6614172aFmtPosFacts
import Derived.ProofKit
import Derived.OpenShut
import Derived.ShutString
import Derived.ChangeOld
import Derived.Below
import Derived.Deep.Slices
namespace Go.Proofs.Qxb6614172aFmt.Pos
open Go.ChangeShapes Go.WideShapes Go.ChangeAt Go.RowKit Go.Deep

theorem own : ownKnob Tryf.prog.godebug = none := by kernel_rfl
theorem laidOut : laidOutB Tryf.prog = true := by kernel_rfl

theorem okWide_arr {P : Program} {w : World} {r : Reach} {base : Nat} {t : TypeId} {v : Value} {n : Nat} {e : TypeId} (ht : P.underlying t = some (.array n e)) (h : Value.okWide P w r base t v) : ∃ cs, v = .agg cs ∧ cs.size = P.cellsOf t := by
  simp only [Value.okWide, ht] at h
  obtain ⟨cs, h1, h2, _⟩ := h
  exact ⟨cs, h1, h2⟩

theorem open_arr {H : Type} {enc : TypeId × Value → H} {P : Program} {w : World} {base : Nat} {spare : Nat → Bool} {held : Bool} {t e : TypeId} {n : Nat} {k : IntKind} {cs : Array Value} {d : DataW H} {p : List MemPlace}
    (ht : P.underlying t = some (.array n e)) (he : P.underlying e = some (.int k)) (hc : P.cellsOf e = 1) (h : DataW.Trod enc P w base spare held t (.agg cs) d p) :
    ∃ x : Nat → Int, ∀ i, i < n → cs[i]? = some (.int k (x i)) ∧ (Lit.int k (x i)).wf = true := by
  obtain ⟨fuel, hf⟩ := h
  obtain ⟨xs, m, _, _, _, hl, hel⟩ := DataW.trod_array ht hf
  have each : ∀ i, i < n → ∃ z : Int, cs[i]? = some (.int k z) ∧ (Lit.int k z).wf = true := fun i hi => by
    have h1 := hel i hi
    rw [List.getElem?_eq_getElem (by omega)] at h1
    obtain ⟨z, e1, _, e3⟩ := DataW.trod_int he h1
    refine ⟨z, ?_, e3⟩
    have e4 : (Value.agg cs).cells.toList = cs.toList := rfl
    rw [hc, Nat.mul_one, e4] at e1
    have e5 : (List.drop i cs.toList)[0]? = some (.int k z) := by
      have := congrArg (fun l => l[0]?) e1
      simpa using this
    simpa using e5
  exact choose_lt each

theorem pad (x : Nat → Int) (hx : ∀ i, i < 312 → (Lit.int .u8 (x i)).wf = true) : ∃ y : Nat → Int, (∀ i, i < 312 → y i = x i) ∧ ∀ i, isByte (y i) := by
  refine ⟨fun i => if i < 312 then x i else 0, fun i h => by simp [h], fun i => ?_⟩
  unfold isByte
  by_cases h : i < 312
  · have := bounds_u8 (hx i h)
    simp only [h, if_true]; omega
  · simp only [h, if_false]; omega

theorem four (cs : Array Value) (s : Nat → Int) (hs : cs.size = 4) (h : ∀ i, i < 4 → cs[i]? = some (.int .u64 (s i))) : cs = #[.int .u64 (s 0), .int .u64 (s 1), .int .u64 (s 2), .int .u64 (s 3)] := by
  apply Array.ext_getElem?
  intro i
  by_cases hi : i < 4
  · rw [h i hi]
    match i, hi with
    | 0, _ => rfl
    | 1, _ => rfl
    | 2, _ => rfl
    | 3, _ => rfl
  · rw [Array.getElem?_eq_none (by omega), Array.getElem?_eq_none (by simp; omega)]
end Go.Proofs.Qxb6614172aFmt.Pos
