/-
  By the prover: Rows.FnDefinitionsListsEveryTypeOnceByNameToldSaid: the told and tied card.
-/
import Derived.Test.Qxb6613654aFmtCards
import Derived.Test.Qxb6613654aFmtTie
import Derived.Test.Qxb6613654aFmtDefsLaw
import Derived.Test.Qxb6613654aFmtDefsOpen
import Derived.ProofKit
import Derived.OpenShut
import Derived.ShutString
import Derived.ChangeOld
import Derived.Below
import Derived.Stop.JoinedAt
import Derived.Stop.JoinedTold
import Derived.Stop.LaidErr
import Derived.Stop.ErrReads
import Derived.SevenTiedAt
namespace Go.Proofs.Qxb6613654aFmt.Defs
open Go.ChangeShapes Go.WideShapes Go.ChangeAt Go.RowKit Go.Deep Go.Kit
open Go.ChangeMaps (open_string shut_string)
open Go.Extern.Stop Go.Stop Go.Extern

theorem own : ownKnob Tryf.prog.godebug = none := by kernel_rfl
theorem laidOut : laidOutB Tryf.prog = true := by kernel_rfl
theorem gS : Tryf.prog.globalNamed "example.com/grant/grant/schema.ErrNotAllowed" = some 0 := by kernel_rfl
theorem gSType : (Tryf.prog.globals[0]?).map (·.type) = some 26 := by kernel_rfl
theorem cells116 : Tryf.prog.cellsOf 116 = 1 := by kernel_rfl
theorem star : "*" ++ "errors.errorString" = "*errors.errorString" := by decide
theorem row114 (u : TypeId) (h : Tryf.prog.typeName? 3 u = some "*errors.errorString") : u = 114 :=
  typeName_ptr_named (nm := "errors.errorString") (by rw [star]; kernel_rfl) (by kernel_rfl) (by decide) u (by rw [star]; exact h)

abbrev notAllowed : ByteArray := { data := #[110, 111, 116, 32, 97, 108, 108, 111, 119, 101, 100, 32, 98, 121, 32, 116, 104, 101, 32, 115, 99, 104, 101, 109, 97] }
noncomputable def low : Nat := (World.holding Tryf.prog default ⟨#[], #[], []⟩).heap.size
noncomputable def laidWorld (os : Os) (g : Nat) (s : ByteArray) : World :=
  let w0 := World.holding Tryf.prog os ⟨#[.cells #[.string s] 116], #[], []⟩
  { w0 with heap := w0.heap.modify g fun
      | .cells _ t frozen => .cells #[.iface 114 (.pointer (some ⟨low, 0, none⟩))] t frozen
      | o => o }
theorem laid_met (os : Os) (args : Array Value) : laidMet Tryf.prog Rows.fnDefinitionsListsEveryTypeOnceByNameRow.laid ((laidWorld os 0 notAllowed).forCall (fun _ _ => 0) ⟨#[], args, []⟩).memory :=
  laidMet_of_run (ps := [.cell 0 0, .cell low 0]) 8 (by kernel_rfl) (by kernel_rfl) (by kernel_rfl)

theorem var?_below {P : Program} {B g : Nat} {W W' : World} {n : String} {cs : Array Value} (h : Below B W W') (hg : P.globalNamed n = some g) (hgB : g < B) (hv : W.var? P n = some cs) : W'.var? P n = some cs := by
  unfold World.var? at hv ⊢
  simp only [hg, Option.bind_some] at hv ⊢
  rw [h.block g hgB]
  exact hv

set_option maxRecDepth 100000 in
theorem lifted (os : Os) (started : os.Started) (H : Type) (enc : TypeId × Value → H) :
    ReturnsInTold none {} Tryf.checked os 4 .any Input.okWide ((OpenSpec.ofChange Rows.fnDefinitionsListsEveryTypeOnceByNameSpec).preRow enc Tryf.prog Tryf.f4 [] false Rows.fnDefinitionsListsEveryTypeOnceByNameRow.laid) (fun F => ((OpenSpec.ofChange Rows.fnDefinitionsListsEveryTypeOnceByNameSpec).at F).post enc Tryf.prog Tryf.f4 false true false false) (aloneAtReturn Tryf.prog) nothingAlways := by
  refine returnsInTold_of_row (C := Tryf.checked) (s := OpenSpec.ofChange Rows.fnDefinitionsListsEveryTypeOnceByNameSpec) (by kernel_rfl) own started (by kernel_rfl) Tryf.func4
    (OpenSpec.witness_stopped_at (enc := enc) (C := Tryf.checked) false (laidWorld os 0 notAllowed) #[.slice none 0 0, .string ⟨#[]⟩] rfl (by kernel_rfl) (by kernel_rfl) (by kernel_rfl)
      (OpenSpec.preRow_of_B rfl 8 (by kernel_rfl) (by kernel_rfl) (laid_met os _))) ?_
  intro F W base args ds gs before _ hF hval0 hW _ _ _ hL _
  have hval : ∀ (j : Nat) t v, Tryf.f4.params[j]? = some t → args[j]? = some v → Value.okWide Tryf.prog W .any base t v := hval0
  have hW' := hW
  obtain ⟨p, q, hA0, hV0, rfl, hfz, hnd⟩ := hW
  have hA : DataW.TrodAll enc Tryf.prog W 0 (fun _ => true) true Tryf.f4.params.toList args.toList ds p := hA0
  have hV : DataW.TrodVars enc Tryf.prog W (fun _ => true) ["example.com/grant/grant/schema.ErrNotAllowed"] gs q := hV0
  rw [Tryf.params4] at hA hval
  obtain ⟨v0, vs0, d0, ds0, p0, q0, hargs, rfl, rfl, h0, r0⟩ := trodAll_cons hA
  obtain ⟨v1, vs1, d1, ds1, p1, q1, rfl, rfl, rfl, h1, r1⟩ := trodAll_cons r0
  obtain ⟨rfl, rfl, rfl⟩ := trodAll_nil r1
  obtain rfl : args = #[v0, v1] := by cases args; simp_all
  obtain ⟨a1, s1, hv1, hc1, hs1, hz1⟩ := laid_sentinel hL gS gSType Tryf.underlying26 row114 Tryf.underlying114 Tryf.underlying116 rfl rfl Tryf.underlying9 cells116 Tryf.cells9
  obtain ⟨rfl, rfl⟩ := hV.unique (vars_read1 enc gS gSType Tryf.underlying26 hv1 trivial _)
  have hg1 : W.cell? ⟨0, 0, none⟩ = some (.iface 114 (.pointer (some a1))) := by simpa using World.var?_cell gS hv1 0
  obtain ⟨a0, len0, cap0, rfl⟩ := okWide_slice Tryf.underlying35 (hval 0 35 v0 rfl rfl)
  have k0 := h0
  have lt0 : ∀ x ∈ p0, x.block < W.heap.size := by obtain ⟨m, hm⟩ := k0; exact DataW.trod_lt m _ _ _ hm
  obtain ⟨D, hI⟩ : ∃ D : Dat, In D a0 len0 W := by
    obtain ⟨fuel, hf⟩ := h0
    exact open_defs hf
  obtain ⟨o, rfl, rfl, rfl, ho⟩ := open_string Tryf.underlying9 (hval 1 9 v1 rfl rfl) h1
  clear hA0 hV0 hval0
  refine (law_any F.told D a0 len0 cap0 o s1 a1 W hF hI ho hg1 hc1).mono fun e W' ⟨he, bel⟩ => ?_
  subst he
  exact ⟨_, rfl, _, _, _, [], _, [.cell 0 0], hW', trodAll_mk1 (shut_bool Tryf.underlying4 _), trodAll_cons_mk (Below.trod laidOut (by kernel_rfl) (of_decide_eq_true (by kernel_rfl)) k0 bel lt0) (trodAll_cons_mk (shut_string Tryf.underlying9 ho) trodAll_mk0), vars_read1 enc gS gSType Tryf.underlying26 (var?_below bel gS (World.block_lt_of_cell? _ _ hg1) hv1) trivial _, bel.frame _, fun h => by cases h⟩

theorem laidOut7 : laidOutB Tryf.pinned.checked.prog = true := by kernel_rfl
theorem stopsD : Tryf.pinned.checked.prog.stops = Rows.fnDefinitionsListsEveryTypeOnceByNameRow.stops := by kernel_rfl
theorem stopKnobsD : Tryf.pinned.checked.prog.stopKnobs = [] := by kernel_rfl
theorem quietD (os : Os) : Stop.quiet Tryf.pinned.checked.prog os := by
  intro k hk
  rw [stopKnobsD] at hk
  cases hk

theorem cardD : Claim7.holds Tryf.pinned (.plain (OpenSpec.ofChange Rows.fnDefinitionsListsEveryTypeOnceByNameSpec)) (Claim7.toldTiedRowAt .later Rows.fnDefinitionsListsEveryTypeOnceByNameRow Rows.fnDefinitionsListsEveryTypeOnceByNameCard.stood.harness false false [.sentinel] true) :=
  Claim7.holds_of_told_tied_any_at .later 4 Tryf.f4 _ _ [] _ _ _ _ _ (by kernel_rfl) rfl rfl rfl laidOut7 (by kernel_rfl) rfl ⟨rfl, rfl, rfl, rfl, rfl, rfl, rfl⟩ rfl rfl (by kernel_rfl) (by kernel_rfl) Tryf.func4 (by kernel_rfl)
    (of_decide_eq_true (by kernel_rfl)) (by unfold Func.isWrapper; rw [if_neg (of_decide_eq_false (by kernel_rfl))]; exact ⟨rfl, rfl⟩) stopsD.symm rfl stopKnobsD.symm (by kernel_rfl)
    (by kernel_rfl) (by kernel_rfl) (by kernel_rfl) (by kernel_rfl) (by kernel_rfl) (by kernel_rfl) (by kernel_rfl) (by kernel_rfl) (by kernel_rfl) rfl (by kernel_rfl) rfl rfl
    rfl rfl
    rfl (by kernel_rfl) (by kernel_rfl) (by kernel_rfl) (by decide) (by kernel_rfl) fnDefinitionsListsEveryTypeOnceByName_row_tie
    (OpenClaim.moreEntering_of (by kernel_rfl) (by kernel_rfl) (by kernel_rfl) (by kernel_rfl) (by kernel_rfl) (by kernel_rfl) (by kernel_rfl) (by kernel_rfl) (by kernel_rfl) (by kernel_rfl))
    ⟨_, WideRow.started_initial, quietD _⟩
    (fun os started _ H enc _ => lifted os started H enc)
end Go.Proofs.Qxb6613654aFmt.Defs

namespace Go.Proofs.Qxb6613654aFmt
/-- THE STATEMENT. -/
theorem definitionsListsEveryTypeOnceByName : Rows.FnDefinitionsListsEveryTypeOnceByNameToldSaid := Defs.cardD
end Go.Proofs.Qxb6613654aFmt
