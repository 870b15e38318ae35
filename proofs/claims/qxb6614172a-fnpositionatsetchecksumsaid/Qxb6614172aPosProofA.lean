/-
  By the prover: Rows.FnPositionAtSetChecksumSaid.
-/
import Derived.Test.Qxb6614172aPosLawA
import Derived.Test.Qxb6614172aPosOpen
namespace Go.Proofs.Qxb6614172a.Pos
open Go.ChangeShapes Go.WideShapes Go.ChangeAt Go.RowKit Go.Deep

set_option maxRecDepth 100000 in
theorem liftedA (os : Os) (started : os.Started) (H : Type) (enc : TypeId × Value → H) :
    ReturnsInHanded {} Try.checked os 5 .any (Rows.fnPositionAtSetChecksumSpec.pre6 enc Try.prog Try.f5 Rows.fnPositionAtSetChecksumRow.domain false) (Rows.fnPositionAtSetChecksumSpec.post enc Try.prog Try.f5 false true false false) := by
  refine returnsInHanded_of_change (C := Try.checked) own started (by kernel_rfl) Try.func5
    (ChangeSpec.witness6 (enc := enc) (C := Try.checked) false ⟨#[], #[.agg (Array.replicate 312 (.int .u8 0)), .bool false, .agg (Array.replicate 4 (.int .u64 0))], []⟩ 8 (by kernel_rfl) (by kernel_rfl) (by kernel_rfl) (by kernel_rfl)) ?_
  intro W base args ds gs before hval0 hW hcnd _
  have hval : ∀ (j : Nat) t v, Try.f5.params[j]? = some t → args[j]? = some v → Value.okWide Try.prog W .any base t v := hval0
  have hW' := hW
  obtain ⟨p, q, hA0, hV, rfl, hfz, hnd⟩ := hW
  have hA : DataW.TrodAll enc Try.prog W 0 (fun _ => true) true Try.f5.params.toList args.toList ds p := hA0
  rw [Try.params5] at hA hval
  obtain ⟨v0, vs0, d0, ds0, p0, q0, hargs, rfl, rfl, h0, r0⟩ := trodAll_cons hA
  obtain ⟨v1, vs1, d1, ds1, p1, q1, rfl, rfl, rfl, h1, r1⟩ := trodAll_cons r0
  obtain ⟨v2, vs2, d2, ds2, p2, q2, rfl, rfl, rfl, h2, r2⟩ := trodAll_cons r1
  obtain ⟨rfl, rfl, rfl⟩ := trodAll_nil r2
  obtain rfl : args = #[v0, v1, v2] := by cases args; simp_all
  obtain ⟨rfl, rfl⟩ := trodVars_none hV
  obtain ⟨cs0, rfl, z0⟩ := okWide_arr Try.underlying22 (hval 0 22 v0 rfl rfl)
  obtain ⟨cs2, rfl, z2⟩ := okWide_arr Try.underlying25 (hval 2 25 v2 rfl rfl)
  have k0 := h0
  have k2 := h2
  have lt0 : ∀ x ∈ p0, x.block < W.heap.size := by obtain ⟨m, hm⟩ := k0; exact DataW.trod_lt m _ _ _ hm
  have lt2 : ∀ x ∈ p2, x.block < W.heap.size := by obtain ⟨m, hm⟩ := k2; exact DataW.trod_lt m _ _ _ hm
  have z0' : cs0.size = 312 := z0.trans (by kernel_rfl)
  have z2' : cs2.size = 4 := z2.trans (by kernel_rfl)
  obtain ⟨x0, hx0⟩ := open_arr Try.underlying22 Try.underlying5 (by kernel_rfl) h0
  obtain ⟨s, hs⟩ := open_arr Try.underlying25 Try.underlying24 (by kernel_rfl) h2
  obtain ⟨x, ex, hx⟩ := pad x0 (fun i hi => (hx0 i hi).2)
  obtain rfl := four cs2 s z2' (fun i hi => (hs i hi).1)
  have hu : ∀ i, i < 4 → isU64 (s i) := fun i hi => by have := bounds_u64 (hs i hi).2; unfold isU64; omega
  obtain ⟨b1, rfl, rfl, rfl⟩ := open_bool Try.underlying4 (hval 1 4 v1 rfl rfl) h1
  clear hA0 hval0
  refine (lawA cs0 b1 x (s 0) (s 1) (s 2) (s 3) W z0' (fun i hi => by rw [(hx0 i hi).1, ex i hi]) hx (hu 0 (by omega)) (hu 1 (by omega)) (hu 2 (by omega)) (hu 3 (by omega))).mono fun e W' ⟨he, bel⟩ => ?_
  subst he
  exact ⟨_, rfl, _, _, _, [], _, [], hW', trodAll_mk1 (shut_bool Try.underlying4 _), (trodAll_cons_mk (Below.trod laidOut (by kernel_rfl) (of_decide_eq_true (by kernel_rfl)) k0 bel lt0) (trodAll_cons_mk (shut_bool Try.underlying4 _) (trodAll_cons_mk (Below.trod laidOut (by kernel_rfl) (of_decide_eq_true (by kernel_rfl)) k2 bel lt2) trodAll_mk0))), rfl, bel.frame _, fun h => by cases h⟩

theorem overA : Rows.fnPositionAtSetChecksumRow.holds Try.pinned (OpenSpec.ofChange Rows.fnPositionAtSetChecksumSpec) :=
  OpenClaim.holds_of_wide 5 Try.f5 rfl rfl rfl rfl rfl rfl rfl ⟨rfl, rfl, rfl, rfl, rfl⟩ rfl rfl rfl rfl rfl (by kernel_rfl) Try.func5 (by kernel_rfl)
    (of_decide_eq_true (by kernel_rfl)) (by unfold Func.isWrapper; first | (rw [if_pos (by decide +kernel)]; kernel_rfl) | (rw [if_neg (by decide +kernel)]; exact ⟨rfl, rfl⟩))
    (fun os started H enc _ => liftedA os started H enc)
end Go.Proofs.Qxb6614172a.Pos

namespace Go.Proofs.Qxb6614172a
/-- THE STATEMENT. -/
theorem positionAtSetChecksum : Rows.FnPositionAtSetChecksumSaid := Pos.overA
end Go.Proofs.Qxb6614172a
