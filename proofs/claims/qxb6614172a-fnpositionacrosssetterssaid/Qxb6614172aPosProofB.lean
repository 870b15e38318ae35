/-
  By the prover: Rows.FnPositionAcrossSettersSaid.
-/
import Derived.Test.Qxb6614172aPosLawB
import Derived.Test.Qxb6614172aPosOpen
namespace Go.Proofs.Qxb6614172a.Pos
open Go.ChangeShapes Go.WideShapes Go.ChangeAt Go.RowKit Go.Deep

set_option maxRecDepth 100000 in
theorem liftedB (os : Os) (started : os.Started) (H : Type) (enc : TypeId × Value → H) :
    ReturnsInHanded {} Try.checked os 6 .any (Rows.fnPositionAcrossSettersSpec.pre6 enc Try.prog Try.f6 Rows.fnPositionAcrossSettersRow.domain false) (Rows.fnPositionAcrossSettersSpec.post enc Try.prog Try.f6 false true false false) := by
  refine returnsInHanded_of_change (C := Try.checked) own started (by kernel_rfl) Try.func6
    (ChangeSpec.witness6 (enc := enc) (C := Try.checked) false ⟨#[], #[.agg (Array.replicate 312 (.int .u8 0)), .bool false, .int .u32 0, .int .u64 0], []⟩ 8 (by kernel_rfl) (by kernel_rfl) (by kernel_rfl) (by kernel_rfl)) ?_
  intro W base args ds gs before hval0 hW hcnd _
  have hval : ∀ (j : Nat) t v, Try.f6.params[j]? = some t → args[j]? = some v → Value.okWide Try.prog W .any base t v := hval0
  have hW' := hW
  obtain ⟨p, q, hA0, hV, rfl, hfz, hnd⟩ := hW
  have hA : DataW.TrodAll enc Try.prog W 0 (fun _ => true) true Try.f6.params.toList args.toList ds p := hA0
  rw [Try.params6] at hA hval
  obtain ⟨v0, vs0, d0, ds0, p0, q0, hargs, rfl, rfl, h0, r0⟩ := trodAll_cons hA
  obtain ⟨v1, vs1, d1, ds1, p1, q1, rfl, rfl, rfl, h1, r1⟩ := trodAll_cons r0
  obtain ⟨v2, vs2, d2, ds2, p2, q2, rfl, rfl, rfl, h2, r2⟩ := trodAll_cons r1
  obtain ⟨v3, vs3, d3, ds3, p3, q3, rfl, rfl, rfl, h3, r3⟩ := trodAll_cons r2
  obtain ⟨rfl, rfl, rfl⟩ := trodAll_nil r3
  obtain rfl : args = #[v0, v1, v2, v3] := by cases args; simp_all
  obtain ⟨rfl, rfl⟩ := trodVars_none hV
  obtain ⟨cs0, rfl, z0⟩ := okWide_arr Try.underlying22 (hval 0 22 v0 rfl rfl)
  have k0 := h0
  have lt0 : ∀ x ∈ p0, x.block < W.heap.size := by obtain ⟨m, hm⟩ := k0; exact DataW.trod_lt m _ _ _ hm
  have z0' : cs0.size = 312 := z0.trans (by kernel_rfl)
  obtain ⟨x0, hx0⟩ := open_arr Try.underlying22 Try.underlying5 (by kernel_rfl) h0
  obtain ⟨x, ex, hx⟩ := pad x0 (fun i hi => (hx0 i hi).2)
  obtain ⟨b1, rfl, rfl, rfl⟩ := open_bool Try.underlying4 (hval 1 4 v1 rfl rfl) h1
  obtain ⟨n, rfl, rfl, rfl, wn⟩ := open_int Try.underlying23 (hval 2 23 v2 rfl rfl) h2
  obtain ⟨u, rfl, rfl, rfl, wu⟩ := open_int Try.underlying24 (hval 3 24 v3 rfl rfl) h3
  have bn := bounds_u32 wn
  clear hA0 hval0
  refine (lawB cs0 b1 x n u W z0' (fun i hi => by rw [(hx0 i hi).1, ex i hi]) hx bn.1 (by omega)).mono fun e W' ⟨he, bel⟩ => ?_
  subst he
  exact ⟨_, rfl, _, _, _, [], _, [], hW', trodAll_mk1 (shut_bool Try.underlying4 _), (trodAll_cons_mk (Below.trod laidOut (by kernel_rfl) (of_decide_eq_true (by kernel_rfl)) k0 bel lt0) (trodAll_cons_mk (shut_bool Try.underlying4 _) (trodAll_cons_mk (shut_int Try.underlying23 wn) (trodAll_cons_mk (shut_int Try.underlying24 wu) trodAll_mk0)))), rfl, bel.frame _, fun h => by cases h⟩

theorem overB : Rows.fnPositionAcrossSettersRow.holds Try.pinned (OpenSpec.ofChange Rows.fnPositionAcrossSettersSpec) :=
  OpenClaim.holds_of_wide 6 Try.f6 rfl rfl rfl rfl rfl rfl rfl ⟨rfl, rfl, rfl, rfl, rfl⟩ rfl rfl rfl rfl rfl (by kernel_rfl) Try.func6 (by kernel_rfl)
    (of_decide_eq_true (by kernel_rfl)) (by unfold Func.isWrapper; first | (rw [if_pos (by decide +kernel)]; kernel_rfl) | (rw [if_neg (by decide +kernel)]; exact ⟨rfl, rfl⟩))
    (fun os started H enc _ => liftedB os started H enc)
end Go.Proofs.Qxb6614172a.Pos

namespace Go.Proofs.Qxb6614172a
/-- THE STATEMENT. -/
theorem positionAcrossSetters : Rows.FnPositionAcrossSettersSaid := Pos.overB
end Go.Proofs.Qxb6614172a
