/-
  By the prover: Rows.FnPayloadSizeAtSetChecksumToldSaid: the told card.
-/
import Derived.Test.Qxb6614172aFmtCards
import Derived.Test.Qxb6614172aFmtPosLawC
import Derived.Test.Qxb6614172aFmtPosOpen
import Derived.Stop.JoinedAt
import Derived.Stop.JoinedTold
import Derived.SevenToldRow
namespace Go.Proofs.Qxb6614172aFmt.Pos
open Go.ChangeShapes Go.WideShapes Go.ChangeAt Go.RowKit Go.Deep Go.Kit
open Go.Extern.Stop Go.Stop Go.Extern

set_option maxRecDepth 100000 in
theorem liftedC (os : Os) (started : os.Started) (H : Type) (enc : TypeId × Value → H) :
    ReturnsInTold none {} Tryf.checked os 3 .any Input.okWide ((OpenSpec.ofChange Rows.fnPayloadSizeAtSetChecksumSpec).preRow enc Tryf.prog Tryf.f3 [] false []) (fun F => ((OpenSpec.ofChange Rows.fnPayloadSizeAtSetChecksumSpec).at F).post enc Tryf.prog Tryf.f3 false true false false) (aloneAtReturn Tryf.prog) nothingAlways := by
  refine returnsInTold_of_row (C := Tryf.checked) (s := OpenSpec.ofChange Rows.fnPayloadSizeAtSetChecksumSpec) (by kernel_rfl) own started (by kernel_rfl) Tryf.func3
    (OpenSpec.witness_stopped (enc := enc) (C := Tryf.checked) false ⟨#[], #[.agg (Array.replicate 312 (.int .u8 0)), .bool false, .agg (Array.replicate 4 (.int .u64 0))], []⟩ 8 (by kernel_rfl) (by kernel_rfl) (by kernel_rfl) (by kernel_rfl)) ?_
  intro F W base args ds gs before _ hF hval0 hW _ _ _ _ _
  have hval : ∀ (j : Nat) t v, Tryf.f3.params[j]? = some t → args[j]? = some v → Value.okWide Tryf.prog W .any base t v := hval0
  have hW' := hW
  obtain ⟨p, q, hA0, hV, rfl, hfz, hnd⟩ := hW
  have hA : DataW.TrodAll enc Tryf.prog W 0 (fun _ => true) true Tryf.f3.params.toList args.toList ds p := hA0
  rw [Tryf.params3] at hA hval
  obtain ⟨v0, vs0, d0, ds0, p0, q0, hargs, rfl, rfl, h0, r0⟩ := trodAll_cons hA
  obtain ⟨v1, vs1, d1, ds1, p1, q1, rfl, rfl, rfl, h1, r1⟩ := trodAll_cons r0
  obtain ⟨v2, vs2, d2, ds2, p2, q2, rfl, rfl, rfl, h2, r2⟩ := trodAll_cons r1
  obtain ⟨rfl, rfl, rfl⟩ := trodAll_nil r2
  obtain rfl : args = #[v0, v1, v2] := by cases args; simp_all
  obtain ⟨rfl, rfl⟩ := trodVars_none hV
  obtain ⟨cs0, rfl, z0⟩ := okWide_arr Tryf.underlying22 (hval 0 22 v0 rfl rfl)
  obtain ⟨cs2, rfl, z2⟩ := okWide_arr Tryf.underlying24 (hval 2 24 v2 rfl rfl)
  have k0 := h0
  have k2 := h2
  have lt0 : ∀ x ∈ p0, x.block < W.heap.size := by obtain ⟨m, hm⟩ := k0; exact DataW.trod_lt m _ _ _ hm
  have lt2 : ∀ x ∈ p2, x.block < W.heap.size := by obtain ⟨m, hm⟩ := k2; exact DataW.trod_lt m _ _ _ hm
  have z0' : cs0.size = 312 := z0.trans (by kernel_rfl)
  have z2' : cs2.size = 4 := z2.trans (by kernel_rfl)
  obtain ⟨x0, hx0⟩ := open_arr Tryf.underlying22 Tryf.underlying5 (by kernel_rfl) h0
  obtain ⟨s, hs⟩ := open_arr Tryf.underlying24 Tryf.underlying23 (by kernel_rfl) h2
  obtain ⟨x, ex, hx⟩ := pad x0 (fun i hi => (hx0 i hi).2)
  obtain rfl := four cs2 s z2' (fun i hi => (hs i hi).1)
  have hu : ∀ i, i < 4 → isU64 (s i) := fun i hi => by have := bounds_u64 (hs i hi).2; unfold isU64; omega
  obtain ⟨b1, rfl, rfl, rfl⟩ := open_bool Tryf.underlying4 (hval 1 4 v1 rfl rfl) h1
  clear hA0 hval0
  refine (lawC F.told cs0 b1 x (s 0) (s 1) (s 2) (s 3) W hF z0' (fun i hi => by rw [(hx0 i hi).1, ex i hi]) hx (hu 0 (by omega)) (hu 1 (by omega)) (hu 2 (by omega)) (hu 3 (by omega))).mono fun e W' ⟨he, bel⟩ => ?_
  subst he
  exact ⟨_, rfl, _, _, _, [], _, [], hW', trodAll_mk1 (shut_bool Tryf.underlying4 _), (trodAll_cons_mk (Below.trod laidOut (by kernel_rfl) (of_decide_eq_true (by kernel_rfl)) k0 bel lt0) (trodAll_cons_mk (shut_bool Tryf.underlying4 _) (trodAll_cons_mk (Below.trod laidOut (by kernel_rfl) (of_decide_eq_true (by kernel_rfl)) k2 bel lt2) trodAll_mk0))), rfl, bel.frame _, fun h => by cases h⟩

theorem laidOut7 : laidOutB Tryf.pinned.checked.prog = true := by kernel_rfl
theorem stopsC : Tryf.pinned.checked.prog.stops = Rows.fnPayloadSizeAtSetChecksumRow.stops := by kernel_rfl
theorem stopKnobsC : Tryf.pinned.checked.prog.stopKnobs = [] := by kernel_rfl
theorem quietC (os : Os) : Stop.quiet Tryf.pinned.checked.prog os := by
  intro k hk
  rw [stopKnobsC] at hk
  cases hk

theorem cardC : Claim7.holds Tryf.pinned (.plain (OpenSpec.ofChange Rows.fnPayloadSizeAtSetChecksumSpec)) (Claim7.toldRow Rows.fnPayloadSizeAtSetChecksumRow Rows.fnPayloadSizeAtSetChecksumCard.stood.harness false false) :=
  Claim7.holds_of_told_any 3 Tryf.f3 _ _ [] _ _ _ (by kernel_rfl) rfl rfl rfl laidOut7 (by kernel_rfl) rfl ⟨rfl, rfl, rfl, rfl, rfl, rfl, rfl⟩ rfl rfl (by kernel_rfl) (by kernel_rfl) Tryf.func3 (by kernel_rfl)
    (of_decide_eq_true (by kernel_rfl)) (by unfold Func.isWrapper; rw [if_neg (of_decide_eq_false (by kernel_rfl))]; exact ⟨rfl, rfl⟩) stopsC.symm rfl stopKnobsC.symm (by kernel_rfl)
    (by kernel_rfl) (by kernel_rfl) (by kernel_rfl) (by kernel_rfl) (by kernel_rfl) (by kernel_rfl) (by kernel_rfl) (by kernel_rfl) (by kernel_rfl) rfl (by kernel_rfl) rfl rfl
    rfl rfl
    rfl (by kernel_rfl) (by kernel_rfl) (by kernel_rfl) (by decide) (by kernel_rfl)
    (OpenClaim.moreEntering_of (by kernel_rfl) (by kernel_rfl) (by kernel_rfl) (by kernel_rfl) (by kernel_rfl) (by kernel_rfl) (by kernel_rfl) (by kernel_rfl) (by kernel_rfl) (by kernel_rfl))
    ⟨_, WideRow.started_initial, quietC _⟩
    (fun os started _ H enc _ => liftedC os started H enc)
end Go.Proofs.Qxb6614172aFmt.Pos

namespace Go.Proofs.Qxb6614172aFmt
/-- THE STATEMENT. -/
theorem payloadSizeAtSetChecksum : Rows.FnPayloadSizeAtSetChecksumToldSaid := Pos.cardC
end Go.Proofs.Qxb6614172aFmt
