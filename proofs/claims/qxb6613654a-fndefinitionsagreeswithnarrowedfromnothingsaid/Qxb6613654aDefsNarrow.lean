/-
  By the prover: THE WALK of (*Schema).Narrowed against a Schema that holds nothing.
-/
import Derived.Test.Qxb6613654aDefsList
import Derived.Deep.AppendLies
import Derived.Deep.OwnRows
namespace Go.Proofs.Qxb6613654a.Defs
open Go.Shelf Go.RowKit Go.Lib Go.Deep

theorem Try.info9 : (Try.prog.info? 9).map (fun i => (i.zero, i.size, i.bytes)) = some (some (.string ⟨#[]⟩), 1, 16) := by kernel_rfl

/-- The first k names, in their order. -/
def nms (n : Nat) (S : Nat → ByteArray) (k : Nat) : List Value := (List.range k).map fun i => .string (S (pick n S i))
theorem nms_succ (n : Nat) (S : Nat → ByteArray) (k : Nat) : nms n S k ++ [.string (S (pick n S k))] = nms n S (k + 1) := by simp [nms, List.range_succ]

/-- What Narrowed hands back. -/
def Named (n : Nat) (S : Nat → ByteArray) (e : Ending) (w' : World) : Prop :=
  ∃ a c, e = .returned (.slice a n c) ∧ (0 < n → ∃ g, a = some ⟨g, 0, none⟩ ∧ ∀ j, j < n → w'.cell? ⟨g, j, none⟩ = some (.string (S (pick n S j))))

theorem named_of {n : Nat} {S : Nat → ByteArray} {w : World} {B c : Nat} {a : Option Addr} (h : w.ownsRow B 9 1 (.slice a n c) n (nms n S n)) : Named n S (.returned (.slice a n c)) w := by
  refine ⟨a, c, rfl, fun h0 => ?_⟩
  rcases h.2 with ⟨e, hk⟩ | ⟨g, cap, cur, e, hB, hg, hn, hm, hs, ht⟩
  · omega
  · obtain ⟨rfl, -, rfl⟩ := Value.slice.inj e
    refine ⟨g, rfl, fun j hj => ?_⟩
    have : cur.toList[j]? = (nms n S n)[j]? := by
      rw [← ht, List.getElem?_take, if_pos (by omega)]
    simp only [World.cell?, hg]
    have e2 : (nms n S n)[j]? = some (.string (S (pick n S j))) := by simp [nms, hj]
    rw [e2] at this
    simpa using this

theorem look_nil (s : ByteArray) (w : World) : (Instr.lookup 34 (.map none) (.string s) false).run Try.prog w = .ok (.pointer none) w := by kernel_rfl

set_option maxHeartbeats 2000000 in
theorem narrowed_any (n : Nat) (S : Nat → ByteArray) (fl : Nat → Nat) (sb tb : Nat) (w : World) (hn : n ≤ 4096) (hS : SchemaAt n S fl sb w) (ht : w.cell? ⟨tb, 1, none⟩ = some (.map none)) :
    Calls Try.prog 15 #[.pointer (some ⟨sb, 0, none⟩), .pointer (some ⟨tb, 0, none⟩)] w fun e w' => Named n S e w' ∧ RowKit.Below w.heap.size w w' := by
  have hdef := definitions_any n S fl sb w hn hS
  obtain ⟨i0, hi, hz0, hz1, hz2⟩ := info_parts Try.info9
  have HI := hide (And.intro hi (And.intro hz0 (And.intro hz1 hz2)))
  have HS := hide hS
  clear hS hi hz0 hz1 hz2
  go_enter Try.func15, Try.ntmps15
  go_wp2_with (go_at_call 14; refine hdef.mono ?_; rintro e w2 ⟨⟨a, c, rfl, hrow⟩, hb2⟩; have HR := hide hrow; have HB := hide hb2; clear hrow hb2)
  clear hdef
  have hsz := HB.out.size
  go_loopw [5, 15] (fun v i wr => ∃ (k : Nat) (a' : Option Addr) (c' : Nat), k ≤ n ∧ i = .int .i64 k ∧ v = .slice a' k c' ∧ wr.ownsRow w2.heap.size 9 1 (.slice a' k c') k (nms n S k) ∧ RowKit.Below w2.heap.size w2 wr) (fun _ i _ => n - (intOf i).toNat)
  case atStart => exact ⟨0, none, 0, Nat.zero_le _, rfl, rfl, World.ownsRow_nil _ _ _ _, RowKit.Below.refl _ _⟩
  case round =>
    obtain ⟨k, a', c', hk, rfl, rfl, hown, hb⟩ := hrel
    by_cases hkn : k < n
    · obtain ⟨g, rfl, hc⟩ := HR.out (by omega)
      have hk0 : (0 : Int) ≤ (k : Int) := by omega
      have hk1 : (k : Int) < (n : Int) := by omega
      have c0 : wr.cell? ⟨g, k, none⟩ = some (.pointer (some ⟨fl (pick n S k), 0, none⟩)) := cell_later hb (hc k hkn)
      have c1 : wr.cell? ⟨fl (pick n S k), 0, none⟩ = some (.string (S (pick n S k))) := cell_later hb (cell_later HB.out (HS.out.names _ (pick_lt hkn)))
      have c2 : wr.cell? ⟨tb, 1, none⟩ = some (.map none) := cell_later hb (cell_later HB.out ht)
      have HO := hide hown
      have HBw := hide hb
      have hsz2 := hb.size
      have hlook := fun w => look_nil (S (pick n S k)) w
      clear hown hb hc
      go_wp2
      go_quiet (fail)
      obtain ⟨w4, hw4⟩ : ∃ x, wr.drewN nq = x := ⟨_, rfl⟩
      have HO4 : Hid (w4.ownsRow w2.heap.size 9 1 (.slice a' k c') k (nms n S k)) := by rw [← hw4]; exact HO.out
      have HB4 : Hid (RowKit.Below w2.heap.size w2 w4) := by rw [← hw4]; exact HBw.out.trans ⟨rfl, rfl, rfl, Nat.le_refl _, fun _ _ => rfl⟩
      have c4 : w4.cell? ⟨fl (pick n S k), 0, none⟩ = some (.string (S (pick n S k))) := by rw [← hw4]; exact c1
      have hsz4 : w2.heap.size ≤ w4.heap.size := HB4.out.size
      rw [hw4]
      clear hw4 c0 c1 c2 HO HBw hlook hsz2
      go_wp2_with (at_builtin; refine wpList_append_lies _ rfl _ _ _ rfl w2.heap.size 9 i0 (.string ⟨#[]⟩) 1 16 Try.underlying22 HI.out.1 HI.out.2.1 HI.out.2.2.1 HI.out.2.2.2 rfl (by omega) (.slice a' k c') k (nms n S k) rfl (HO4.out.alloc _) ⟨w4.heap.size, 0, none⟩ 1 1 [.string (S (pick n S k))] rfl rfl (cell_one_new _ _ _) (by intro u hu; simp at hu; subst hu; rfl) (by omega) (by unfold maxLen; omega) (by omega) (by simp; omega) (w4.heap.size + 1) (by simp) ?_; intro g5 cap5 w5 hown5 hgrow5 _ _)
      have hown6 : w5.ownsRow w2.heap.size 9 1 (.slice (some ⟨g5, 0, none⟩) (k + 1) cap5) (k + 1) (nms n S (k + 1)) := by rw [← nms_succ]; exact hown5
      have hb6 : RowKit.Below w2.heap.size w2 w5 := by
        have hb5 : RowKit.Below w2.heap.size w2 (w4.alloc (.cells #[.string (S (pick n S k))] 9)) := HB4.out.alloc hsz4 _
        refine hb5.grown hgrow5 (by simp; omega) ?_
        intro b hb
        exact (HO4.out.lt b hb).1
      go_roundw
      case rel => exact ⟨k + 1, some ⟨g5, 0, none⟩, cap5, by omega, by go_num, rfl, hown6, hb6⟩
      case measure => simp [intOf]; omega
    · obtain rfl : k = n := by omega
      go_wp2
      go_ret
      exact ⟨named_of hown, HB.out.trans (hb.mono HB.out.size)⟩
end Go.Proofs.Qxb6613654a.Defs
