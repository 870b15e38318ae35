/-
  By the prover: A []Def OPENED: a slice of structs that hold slices of structs that hold slices of structs.
-/
import Derived.Test.Qxb6613654aFmtDefsIn
import Derived.Deep.SlicePairs
import Derived.Deep.Strs
namespace Go.Proofs.Qxb6613654aFmt.Defs
open Go.ChangeShapes Go.WideShapes Go.RowKit Go.Deep

theorem Tryf.cells4 : Tryf.prog.cellsOf 4 = 1 := by kernel_rfl
theorem Tryf.cells9 : Tryf.prog.cellsOf 9 = 1 := by kernel_rfl
theorem Tryf.cells43 : Tryf.prog.cellsOf 43 = 1 := by kernel_rfl
theorem Tryf.cells45 : Tryf.prog.cellsOf 45 = 2 := by kernel_rfl
theorem Tryf.cells65 : Tryf.prog.cellsOf 65 = 1 := by kernel_rfl
theorem Tryf.cells67 : Tryf.prog.cellsOf 67 = 2 := by kernel_rfl
theorem Tryf.cells69 : Tryf.prog.cellsOf 69 = 3 := by kernel_rfl

section
variable {H : Type} {enc : TypeId × Value → H} {w : World} {base : Nat} {spare : Nat → Bool} {held : Bool}

theorem plain_addr {a : Addr} {v : Value} (h : w.cell? (a.add 0) = some v) : ∃ b off, a = ⟨b, off, none⟩ := by
  obtain ⟨b, off, spot⟩ := a
  have hspot : spot = none := by simpa [Addr.add] using World.cell?_spot h
  subst hspot
  exact ⟨b, off, rfl⟩

/-- A slice of pairs: a string, and what the given law opens. -/
theorem open_named {α : Type} [Inhabited α] {t e : TypeId} {f0 f1 : Field} (ht : Tryf.prog.underlying t = some (.slice e)) (he : Tryf.prog.underlying e = some (.struct #[f0, f1]))
    (ce : Tryf.prog.cellsOf e = 2) (o0 : f0.offset = 0) (o1 : f1.offset = 1) (c0 : Tryf.prog.cellsOf f0.type = 1) (c1 : Tryf.prog.cellsOf f1.type = 1) (hs : Tryf.prog.underlying f0.type = some .string)
    (val : α → Value) (good : α → Prop) (hopen : ∀ n v x, DataW.trod enc Tryf.prog w base spare held n f1.type [v] = some x → ∃ r, v = val r ∧ good r)
    {fuel : Nat} {v : Value} {x : DataW H × List MemPlace} (h : DataW.trod enc Tryf.prog w base spare held fuel t [v] = some x) :
    ∃ (a : Option Addr) (n c : Nat) (s : Nat → ByteArray) (r : Nat → α), v = .slice a n c ∧ n ≤ maxLen ∧
      (0 < n → ∃ b off, a = some ⟨b, off, none⟩ ∧ ∀ j, j < n → w.cell? ⟨b, off + j * 2, none⟩ = some (.string (s j)) ∧ w.cell? ⟨b, off + j * 2 + 1, none⟩ = some (val (r j))) ∧
      ∀ j, j < n → (s j).size ≤ maxLen ∧ good (r j) := by
  rcases open_slice_pairs ht he ce o0 o1 c0 c1 h with ⟨hcs, _⟩ | ⟨a, len, cap, m, n, V0, V1, D0, D1, P0, P1, hcs, hb, hl, hm, hmm, _, hx⟩
  · obtain rfl : v = .slice none 0 0 := by simpa using hcs
    exact ⟨none, 0, 0, fun _ => ⟨#[]⟩, fun _ => default, rfl, Nat.zero_le _, fun h => absurd h (by omega), fun j h => absurd h (by omega)⟩
  · obtain rfl : v = .slice (some a) len cap := by simpa using hcs
    have hlm : len ≤ m := by rw [hmm]; split <;> omega
    have each : ∀ i, i < len → ∃ q : ByteArray × α, w.cell? (a.add (i * 2)) = some (.string q.1) ∧ w.cell? (a.add (i * 2 + 1)) = some (val q.2) ∧ q.1.size ≤ maxLen ∧ good q.2 := by
      intro i hi
      obtain ⟨h0, h1, g0, g1⟩ := hx i (by omega)
      obtain ⟨s, e0, _, l0⟩ := DataW.trod_string hs g0
      obtain ⟨r, e1, l1⟩ := hopen _ _ _ g1
      simp only [List.cons.injEq, and_true] at e0
      rw [e0] at h0
      rw [e1] at h1
      exact ⟨(s, r), h0, h1, l0, l1⟩
    obtain ⟨q, hq⟩ := choose_lt each
    refine ⟨some a, len, cap, fun i => (q i).1, fun i => (q i).2, rfl, by omega, fun hp => ?_, fun j hj => ⟨(hq j hj).2.2.1, (hq j hj).2.2.2⟩⟩
    obtain ⟨b, off, rfl⟩ := plain_addr (by simpa using (hq 0 hp).1)
    refine ⟨b, off, rfl, fun j hj => ?_⟩
    have h0 := (hq j hj).1
    have h1 := (hq j hj).2.1
    rw [add_plain] at h0 h1
    exact ⟨h0, h1⟩

/-- What a []SType says. -/
structure TL where
  a : Option Addr
  n : Nat
  c : Nat
  ty : Nat → ByteArray
  wc : Nat → Bool
  re : Nat → ByteArray
instance : Inhabited TL := ⟨⟨none, 0, 0, fun _ => ⟨#[]⟩, fun _ => false, fun _ => ⟨#[]⟩⟩⟩

structure TL.In (T : TL) (w : World) : Prop where
  n_le : T.n ≤ maxLen
  cells : 0 < T.n → ∃ b off, T.a = some ⟨b, off, none⟩ ∧ ∀ k, k < T.n → w.cell? ⟨b, off + k * 3, none⟩ = some (.string (T.ty k)) ∧ w.cell? ⟨b, off + k * 3 + 1, none⟩ = some (.bool (T.wc k)) ∧ w.cell? ⟨b, off + k * 3 + 2, none⟩ = some (.string (T.re k))
  le : ∀ k, k < T.n → (T.ty k).size ≤ maxLen ∧ (T.re k).size ≤ maxLen

/-- One struct of three cells: a string, a bool, a string. -/
theorem open_sbs {P : Program} {e : TypeId} {f0 f1 f2 : Field} (he : P.underlying e = some (.struct #[f0, f1, f2])) (o0 : f0.offset = 0) (o1 : f1.offset = 1) (o2 : f2.offset = 2)
    (c0 : P.cellsOf f0.type = 1) (c1 : P.cellsOf f1.type = 1) (c2 : P.cellsOf f2.type = 1) (u0 : P.underlying f0.type = some .string) (u1 : P.underlying f1.type = some .bool) (u2 : P.underlying f2.type = some .string)
    {fuel : Nat} {cs : List Value} {x : DataW H × List MemPlace} (hl : cs.length = 3) (h : DataW.trod enc P w base spare held fuel e cs = some x) :
    ∃ (s0 : ByteArray) (s1 : Bool) (s2 : ByteArray), cs = [.string s0, .bool s1, .string s2] ∧ s0.size ≤ maxLen ∧ s2.size ≤ maxLen := by
  obtain ⟨y0, y1, y2, k, _, _, g0, g1, g2⟩ := trod_struct3 he h
  match cs, hl with
  | [v0, v1, v2], _ =>
    simp [o0, o1, o2, c0, c1, c2] at g0 g1 g2
    obtain ⟨s0, e0, _, l0⟩ := DataW.trod_string u0 g0
    obtain ⟨s1, e1, _⟩ := DataW.trod_bool u1 g1
    obtain ⟨s2, e2, _, l2⟩ := DataW.trod_string u2 g2
    simp only [List.cons.injEq, and_true] at e0 e1 e2
    subst e0 e1 e2
    exact ⟨s0, s1, s2, rfl, l0, l2⟩

theorem open_types {fuel : Nat} {v : Value} {x : DataW H × List MemPlace} (h : DataW.trod enc Tryf.prog w base spare held fuel 65 [v] = some x) : ∃ T : TL, v = .slice T.a T.n T.c ∧ T.In w := by
  rcases open_slice Tryf.underlying65 h with ⟨hcs, _⟩ | ⟨a, len, cap, m, n, D, Pl, hcs, hb, hl, hm, hmm, _, hx⟩
  · obtain rfl : v = .slice none 0 0 := by simpa using hcs
    exact ⟨⟨none, 0, 0, fun _ => ⟨#[]⟩, fun _ => false, fun _ => ⟨#[]⟩⟩, rfl, Nat.zero_le _, fun h => absurd h (Nat.lt_irrefl _), fun k h => absurd h (Nat.not_lt_zero _)⟩
  · obtain rfl : v = .slice (some a) len cap := by simpa using hcs
    have hlm : len ≤ m := by rw [hmm]; split <;> omega
    have each : ∀ i, i < len → ∃ q : ByteArray × Bool × ByteArray, w.cell? (a.add (i * 3)) = some (.string q.1) ∧ w.cell? (a.add (i * 3 + 1)) = some (.bool q.2.1) ∧ w.cell? (a.add (i * 3 + 2)) = some (.string q.2.2) ∧ q.1.size ≤ maxLen ∧ q.2.2.size ≤ maxLen := by
      intro i hi
      obtain ⟨cs', h1, h2⟩ := hx i (by omega)
      rw [Tryf.cells69] at h1
      obtain ⟨_, hlen, hcell⟩ := World.cells?_some h1
      obtain ⟨s0, s1, s2, hcs', l0, l2⟩ := open_sbs Tryf.underlying69 rfl rfl rfl Tryf.cells9 Tryf.cells4 Tryf.cells9 Tryf.underlying9 Tryf.underlying4 Tryf.underlying9 hlen h2
      subst hcs'
      have d0 := hcell 0 (by omega)
      have d1 := hcell 1 (by omega)
      have d2 := hcell 2 (by omega)
      rw [add_add] at d0 d1 d2
      exact ⟨(s0, s1, s2), by simpa using d0, by simpa using d1, by simpa using d2, l0, l2⟩
    obtain ⟨q, hq⟩ := choose_lt each
    refine ⟨⟨some a, len, cap, fun i => (q i).1, fun i => (q i).2.1, fun i => (q i).2.2⟩, rfl, by show len ≤ maxLen; omega, fun hp => ?_, fun j hj => ⟨(hq j hj).2.2.2.1, (hq j hj).2.2.2.2⟩⟩
    obtain ⟨b, off, rfl⟩ := plain_addr (by simpa using (hq 0 hp).1)
    refine ⟨b, off, rfl, fun j hj => ?_⟩
    have h0 := (hq j hj).1
    have h1 := (hq j hj).2.1
    have h2 := (hq j hj).2.2.1
    rw [add_plain] at h0 h1 h2
    exact ⟨h0, h1, h2⟩

/-- What a []Rel says. -/
structure RL where
  a : Option Addr
  n : Nat
  c : Nat
  rs : Nat → ByteArray
  t : Nat → TL
instance : Inhabited RL := ⟨⟨none, 0, 0, fun _ => ⟨#[]⟩, fun _ => default⟩⟩

structure RL.In (R : RL) (w : World) : Prop where
  n_le : R.n ≤ maxLen
  cells : 0 < R.n → ∃ b off, R.a = some ⟨b, off, none⟩ ∧ ∀ j, j < R.n → w.cell? ⟨b, off + j * 2, none⟩ = some (.string (R.rs j)) ∧ w.cell? ⟨b, off + j * 2 + 1, none⟩ = some (.slice (R.t j).a (R.t j).n (R.t j).c)
  each : ∀ j, j < R.n → (R.rs j).size ≤ maxLen ∧ (R.t j).In w

theorem open_rels {fuel : Nat} {v : Value} {x : DataW H × List MemPlace} (h : DataW.trod enc Tryf.prog w base spare held fuel 43 [v] = some x) : ∃ R : RL, v = .slice R.a R.n R.c ∧ R.In w := by
  obtain ⟨a, n, c, s, r, rfl, hn, hc, he⟩ := open_named (α := TL) Tryf.underlying43 Tryf.underlying67 Tryf.cells67 rfl rfl Tryf.cells9 Tryf.cells65 Tryf.underlying9 (fun T => .slice T.a T.n T.c) (fun T => T.In w) (fun _ _ _ h => open_types h) h
  exact ⟨⟨a, n, c, s, r⟩, rfl, hn, hc, he⟩

theorem open_defs {fuel : Nat} {a : Option Addr} {len cap : Nat} {x : DataW H × List MemPlace} (h : DataW.trod enc Tryf.prog w base spare held fuel 35 [.slice a len cap] = some x) : ∃ D : Dat, In D a len w := by
  obtain ⟨a', n, c, s, r, hv, hn, hc, he⟩ := open_named (α := RL) Tryf.underlying35 Tryf.underlying45 Tryf.cells45 rfl rfl Tryf.cells9 Tryf.cells43 Tryf.underlying9 (fun T => .slice T.a T.n T.c) (fun T => T.In w) (fun _ _ _ h => open_rels h) h
  obtain ⟨rfl, rfl, rfl⟩ := Value.slice.inj hv
  refine ⟨⟨s, fun i => (r i).a, fun i => (r i).n, fun i => (r i).c, fun i j => (r i).rs j, fun i j => ((r i).t j).a, fun i j => ((r i).t j).n, fun i j => ((r i).t j).c, fun i j k => ((r i).t j).ty k, fun i j k => ((r i).t j).wc k, fun i j k => ((r i).t j).re k⟩, ?_⟩
  exact {
    defs := hc
    rels := fun i hi h0 => (he i hi).2.cells h0
    types := fun i j hi hj h0 => ((he i hi).2.each j hj).2.cells h0
    n_le := hn
    S_le := fun i hi => (he i hi).1
    rn_le := fun i hi => (he i hi).2.n_le
    rs_le := fun i j hi hj => ((he i hi).2.each j hj).1
    tn_le := fun i j hi hj => ((he i hi).2.each j hj).2.n_le
    ty_le := fun i j k hi hj hk => (((he i hi).2.each j hj).2.le k hk).1
    re_le := fun i j k hi hj hk => (((he i hi).2.each j hj).2.le k hk).2 }
end
end Go.Proofs.Qxb6613654aFmt.Defs
