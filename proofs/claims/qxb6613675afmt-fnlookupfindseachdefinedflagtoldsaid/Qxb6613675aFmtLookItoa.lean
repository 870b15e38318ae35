/-
  By the prover: THE WALK of zzItoa at 0 .. 1024: it returns one and the same text each time.
-/
import Derived.Test.Qxb6613675aFmtLookBytes
import Derived.Laws.BytesArg
namespace Go.Proofs.Qxb6613675aFmt.Look
open Go.RowKit

theorem conv (w : World) (C : Array Value) (off len : Nat) (xs : List Int) (hlen : xs.length = len) (hC : ∀ i, i < len → C[off + i]? = some (.int .u8 (xs.getD i 0))) :
    (convert 56 9 (.slice (some ⟨w.heap.size, off, none⟩) len len)).run Tryf.prog (w.alloc (.cells C 55)) = .ok (.string (strOfNums xs)) (w.alloc (.cells C 55)) :=
  run_convert_bytes_arg (P := Tryf.prog) (w.alloc (.cells C 55)) 56 5 Tryf.underlying56 Tryf.underlying5 w.heap.size off len len xs hlen (fun i hi => by rw [World.cell?_alloc_new]; exact hC i hi) 9 Tryf.underlying9

/-- The text that zzItoa gives for k. -/
def IT (k : Int) : ByteArray :=
  if k = 0 then ⟨#[48]⟩
  else if k < 10 then strOfNums [48 + k % 10]
  else if k < 100 then strOfNums [48 + k / 10 % 10, 48 + k % 10]
  else if k < 1000 then strOfNums [48 + k / 10 / 10 % 10, 48 + k / 10 % 10, 48 + k % 10]
  else strOfNums [48 + k / 10 / 10 / 10 % 10, 48 + k / 10 / 10 % 10, 48 + k / 10 % 10, 48 + k % 10]

set_option maxHeartbeats 400000 in
theorem itoa_0 (w : World) : Calls Tryf.prog 11 #[.int .i64 0] w fun e w' => e = .returned (.string (IT 0)) ∧ Below w.heap.size w w' := by
  go_enter Tryf.func11, Tryf.ntmps11
  go_wp2
  go_ret
  exact ⟨rfl, Below.refl _ _⟩

theorem ret_str {a b : ByteArray} (h : a = b) : Ending.returned (.string a) = .returned (.string b) := by rw [h]

theorem conv_1 (w : World) (d0 : Int) : (convert 56 9 (.slice (some ⟨w.heap.size, 23, none⟩) 1 1)).run Tryf.prog (w.alloc (.cells #[Value.int .u8 0, Value.int .u8 0, Value.int .u8 0, Value.int .u8 0, Value.int .u8 0, Value.int .u8 0, Value.int .u8 0, Value.int .u8 0, Value.int .u8 0, Value.int .u8 0, Value.int .u8 0, Value.int .u8 0, Value.int .u8 0, Value.int .u8 0, Value.int .u8 0, Value.int .u8 0, Value.int .u8 0, Value.int .u8 0, Value.int .u8 0, Value.int .u8 0, Value.int .u8 0, Value.int .u8 0, Value.int .u8 0, Value.int .u8 d0] 55)) =
    .ok (.string (strOfNums [d0])) (w.alloc (.cells #[Value.int .u8 0, Value.int .u8 0, Value.int .u8 0, Value.int .u8 0, Value.int .u8 0, Value.int .u8 0, Value.int .u8 0, Value.int .u8 0, Value.int .u8 0, Value.int .u8 0, Value.int .u8 0, Value.int .u8 0, Value.int .u8 0, Value.int .u8 0, Value.int .u8 0, Value.int .u8 0, Value.int .u8 0, Value.int .u8 0, Value.int .u8 0, Value.int .u8 0, Value.int .u8 0, Value.int .u8 0, Value.int .u8 0, Value.int .u8 d0] 55)) :=
  conv w _ 23 1 [d0] rfl (fun i hi => by
    match i, hi with
    | 0, _ => rfl)

set_option maxHeartbeats 1000000 in
theorem itoa_1 (k : Int) (w : World) (h0 : 1 ≤ k) (h1 : k < 10) : Calls Tryf.prog 11 #[.int .i64 k] w fun e w' => e = .returned (.string (IT k)) ∧ Below w.heap.size w w' := by
  have hcv := conv_1
  have hIT : IT k = strOfNums [48 + k % 10] := by unfold IT; rw [if_neg (by omega), if_pos (by omega)]
  have HIT := hide hIT
  clear hIT
  have e0 : (k == 0) = false := by simp; omega
  go_enter Tryf.func11, Tryf.ntmps11
  go_wp2
  refine wp_loop_rounds 2 ?_
  rw [rounds_succ]
  go_wp2
  rw [rounds_succ]
  go_wp2
  go_ret
  exact ⟨ret_str HIT.out.symm, (Below.refl _ _).alloc (Nat.le_refl _) _⟩

theorem conv_2 (w : World) (d0 d1 : Int) : (convert 56 9 (.slice (some ⟨w.heap.size, 22, none⟩) 2 2)).run Tryf.prog (w.alloc (.cells #[Value.int .u8 0, Value.int .u8 0, Value.int .u8 0, Value.int .u8 0, Value.int .u8 0, Value.int .u8 0, Value.int .u8 0, Value.int .u8 0, Value.int .u8 0, Value.int .u8 0, Value.int .u8 0, Value.int .u8 0, Value.int .u8 0, Value.int .u8 0, Value.int .u8 0, Value.int .u8 0, Value.int .u8 0, Value.int .u8 0, Value.int .u8 0, Value.int .u8 0, Value.int .u8 0, Value.int .u8 0, Value.int .u8 d0, Value.int .u8 d1] 55)) =
    .ok (.string (strOfNums [d0, d1])) (w.alloc (.cells #[Value.int .u8 0, Value.int .u8 0, Value.int .u8 0, Value.int .u8 0, Value.int .u8 0, Value.int .u8 0, Value.int .u8 0, Value.int .u8 0, Value.int .u8 0, Value.int .u8 0, Value.int .u8 0, Value.int .u8 0, Value.int .u8 0, Value.int .u8 0, Value.int .u8 0, Value.int .u8 0, Value.int .u8 0, Value.int .u8 0, Value.int .u8 0, Value.int .u8 0, Value.int .u8 0, Value.int .u8 0, Value.int .u8 d0, Value.int .u8 d1] 55)) :=
  conv w _ 22 2 [d0, d1] rfl (fun i hi => by
    match i, hi with
    | 0, _ => rfl
    | 1, _ => rfl)

set_option maxHeartbeats 1000000 in
theorem itoa_2 (k : Int) (w : World) (h0 : 10 ≤ k) (h1 : k < 100) : Calls Tryf.prog 11 #[.int .i64 k] w fun e w' => e = .returned (.string (IT k)) ∧ Below w.heap.size w w' := by
  have hcv := conv_2
  have hIT : IT k = strOfNums [48 + k / 10 % 10, 48 + k % 10] := by unfold IT; rw [if_neg (by omega), if_neg (by omega), if_pos (by omega)]
  have HIT := hide hIT
  clear hIT
  have e0 : (k == 0) = false := by simp; omega
  go_enter Tryf.func11, Tryf.ntmps11
  go_wp2
  refine wp_loop_rounds 3 ?_
  rw [rounds_succ]
  go_wp2
  rw [rounds_succ]
  go_wp2
  rw [rounds_succ]
  go_wp2
  go_ret
  exact ⟨ret_str HIT.out.symm, (Below.refl _ _).alloc (Nat.le_refl _) _⟩

theorem conv_3 (w : World) (d0 d1 d2 : Int) : (convert 56 9 (.slice (some ⟨w.heap.size, 21, none⟩) 3 3)).run Tryf.prog (w.alloc (.cells #[Value.int .u8 0, Value.int .u8 0, Value.int .u8 0, Value.int .u8 0, Value.int .u8 0, Value.int .u8 0, Value.int .u8 0, Value.int .u8 0, Value.int .u8 0, Value.int .u8 0, Value.int .u8 0, Value.int .u8 0, Value.int .u8 0, Value.int .u8 0, Value.int .u8 0, Value.int .u8 0, Value.int .u8 0, Value.int .u8 0, Value.int .u8 0, Value.int .u8 0, Value.int .u8 0, Value.int .u8 d0, Value.int .u8 d1, Value.int .u8 d2] 55)) =
    .ok (.string (strOfNums [d0, d1, d2])) (w.alloc (.cells #[Value.int .u8 0, Value.int .u8 0, Value.int .u8 0, Value.int .u8 0, Value.int .u8 0, Value.int .u8 0, Value.int .u8 0, Value.int .u8 0, Value.int .u8 0, Value.int .u8 0, Value.int .u8 0, Value.int .u8 0, Value.int .u8 0, Value.int .u8 0, Value.int .u8 0, Value.int .u8 0, Value.int .u8 0, Value.int .u8 0, Value.int .u8 0, Value.int .u8 0, Value.int .u8 0, Value.int .u8 d0, Value.int .u8 d1, Value.int .u8 d2] 55)) :=
  conv w _ 21 3 [d0, d1, d2] rfl (fun i hi => by
    match i, hi with
    | 0, _ => rfl
    | 1, _ => rfl
    | 2, _ => rfl)

set_option maxHeartbeats 1000000 in
theorem itoa_3 (k : Int) (w : World) (h0 : 100 ≤ k) (h1 : k < 1000) : Calls Tryf.prog 11 #[.int .i64 k] w fun e w' => e = .returned (.string (IT k)) ∧ Below w.heap.size w w' := by
  have hcv := conv_3
  have hIT : IT k = strOfNums [48 + k / 10 / 10 % 10, 48 + k / 10 % 10, 48 + k % 10] := by unfold IT; rw [if_neg (by omega), if_neg (by omega), if_neg (by omega), if_pos (by omega)]
  have HIT := hide hIT
  clear hIT
  have e0 : (k == 0) = false := by simp; omega
  go_enter Tryf.func11, Tryf.ntmps11
  go_wp2
  refine wp_loop_rounds 4 ?_
  rw [rounds_succ]
  go_wp2
  rw [rounds_succ]
  go_wp2
  rw [rounds_succ]
  go_wp2
  rw [rounds_succ]
  go_wp2
  go_ret
  exact ⟨ret_str HIT.out.symm, (Below.refl _ _).alloc (Nat.le_refl _) _⟩

theorem conv_4 (w : World) (d0 d1 d2 d3 : Int) : (convert 56 9 (.slice (some ⟨w.heap.size, 20, none⟩) 4 4)).run Tryf.prog (w.alloc (.cells #[Value.int .u8 0, Value.int .u8 0, Value.int .u8 0, Value.int .u8 0, Value.int .u8 0, Value.int .u8 0, Value.int .u8 0, Value.int .u8 0, Value.int .u8 0, Value.int .u8 0, Value.int .u8 0, Value.int .u8 0, Value.int .u8 0, Value.int .u8 0, Value.int .u8 0, Value.int .u8 0, Value.int .u8 0, Value.int .u8 0, Value.int .u8 0, Value.int .u8 0, Value.int .u8 d0, Value.int .u8 d1, Value.int .u8 d2, Value.int .u8 d3] 55)) =
    .ok (.string (strOfNums [d0, d1, d2, d3])) (w.alloc (.cells #[Value.int .u8 0, Value.int .u8 0, Value.int .u8 0, Value.int .u8 0, Value.int .u8 0, Value.int .u8 0, Value.int .u8 0, Value.int .u8 0, Value.int .u8 0, Value.int .u8 0, Value.int .u8 0, Value.int .u8 0, Value.int .u8 0, Value.int .u8 0, Value.int .u8 0, Value.int .u8 0, Value.int .u8 0, Value.int .u8 0, Value.int .u8 0, Value.int .u8 0, Value.int .u8 d0, Value.int .u8 d1, Value.int .u8 d2, Value.int .u8 d3] 55)) :=
  conv w _ 20 4 [d0, d1, d2, d3] rfl (fun i hi => by
    match i, hi with
    | 0, _ => rfl
    | 1, _ => rfl
    | 2, _ => rfl
    | 3, _ => rfl)

set_option maxHeartbeats 1000000 in
theorem itoa_4 (k : Int) (w : World) (h0 : 1000 ≤ k) (h1 : k ≤ 1024) : Calls Tryf.prog 11 #[.int .i64 k] w fun e w' => e = .returned (.string (IT k)) ∧ Below w.heap.size w w' := by
  have hcv := conv_4
  have hIT : IT k = strOfNums [48 + k / 10 / 10 / 10 % 10, 48 + k / 10 / 10 % 10, 48 + k / 10 % 10, 48 + k % 10] := by unfold IT; rw [if_neg (by omega), if_neg (by omega), if_neg (by omega), if_neg (by omega)]
  have HIT := hide hIT
  clear hIT
  have e0 : (k == 0) = false := by simp; omega
  go_enter Tryf.func11, Tryf.ntmps11
  go_wp2
  refine wp_loop_rounds 5 ?_
  rw [rounds_succ]
  go_wp2
  rw [rounds_succ]
  go_wp2
  rw [rounds_succ]
  go_wp2
  rw [rounds_succ]
  go_wp2
  rw [rounds_succ]
  go_wp2
  go_ret
  exact ⟨ret_str HIT.out.symm, (Below.refl _ _).alloc (Nat.le_refl _) _⟩

theorem itoa_any (k : Nat) (w : World) (hk : k ≤ 1024) : Calls Tryf.prog 11 #[.int .i64 k] w fun e w' => e = .returned (.string (IT k)) ∧ Below w.heap.size w w' := by
  by_cases h0 : k = 0
  · subst h0; exact itoa_0 w
  by_cases h1 : k < 10
  · exact itoa_1 k w (by omega) (by omega)
  by_cases h2 : k < 100
  · exact itoa_2 k w (by omega) (by omega)
  by_cases h3 : k < 1000
  · exact itoa_3 k w (by omega) (by omega)
  · exact itoa_4 k w (by omega) (by omega)
end Go.Proofs.Qxb6613675aFmt.Look
