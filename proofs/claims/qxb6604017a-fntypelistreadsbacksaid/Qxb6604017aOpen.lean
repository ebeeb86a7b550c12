import Derived.Test.Qxb6604017aSts
import Derived.ProofKit
import Derived.Deep.Slices
import Derived.Deep.Strs
namespace Go.Proofs.Qxb6604017a
open Go.ChangeShapes Go.WideShapes Go.ChangeAt Go.RowKit

theorem cells28 : Try.prog.cellsOf 28 = 3 := by kernel_rfl
theorem cells9 : Try.prog.cellsOf 9 = 1 := by kernel_rfl
theorem cells4 : Try.prog.cellsOf 4 = 1 := by kernel_rfl

/-- One ST, read: its three cells. -/
theorem open_st {H : Type} {enc : TypeId × Value → H} {W : World} {base n : Nat} {sp : Nat → Bool} {held : Bool} {cs : List Value} {y : DataW H × List MemPlace} (h : DataW.trod enc Try.prog W base sp held n 28 cs = some y) :
    ∃ t : K3, cs = [.string t.ty, .bool t.wild, .string t.rel] ∧ t.ty.size ≤ maxLen ∧ t.rel.size ≤ maxLen := by
  obtain ⟨y0, y1, y2, m, _, hl, h0, h1, h2⟩ := Go.Deep.trod_struct3 Try.underlying28 h
  rw [cells28] at hl
  match cs, hl with
  | [c0, c1, c2], _ =>
    simp only [cells9, cells4] at h0 h1 h2
    obtain ⟨s0, e0, _, m0⟩ := DataW.trod_string Try.underlying9 h0
    obtain ⟨b1, e1, _⟩ := DataW.trod_bool Try.underlying4 h1
    obtain ⟨s2, e2, _, m2⟩ := DataW.trod_string Try.underlying9 h2
    simp at e0 e1 e2
    exact ⟨⟨s0, b1, s2⟩, by rw [e0, e1, e2], m0, m2⟩
theorem list_of {α : Type} (P : Nat → α → Prop) : ∀ n, (∀ i, i < n → ∃ x, P i x) → ∃ l : List α, l.length = n ∧ ∀ (i : Nat) (x : α), l[i]? = some x → P i x
  | 0, _ => ⟨[], rfl, fun i x h => by simp at h⟩
  | n + 1, h => by
    obtain ⟨l, hl, hp⟩ := list_of P n (fun i hi => h i (by omega))
    obtain ⟨y, hy⟩ := h n (by omega)
    refine ⟨l ++ [y], by simp [hl], fun i x hx => ?_⟩
    by_cases hi : i < l.length
    · rw [List.getElem?_append_left hi] at hx
      exact hp i x hx
    · have h2 := (List.getElem?_eq_some_iff.1 hx).1
      simp at h2
      obtain rfl : i = n := by omega
      rw [List.getElem?_append_right (by omega), hl, Nat.sub_self] at hx
      simp at hx
      subst hx
      exact hy
theorem addr_add (b off j : Nat) : (⟨b, off, none⟩ : Addr).add j = ⟨b, off + j, none⟩ := by unfold Addr.add; split <;> simp_all
theorem cells3 {w : World} {base : Nat} {a : Addr} {c0 c1 c2 : Value} (h : w.cells? base a 3 = some [c0, c1, c2]) : w.cell? (a.add 0) = some c0 ∧ w.cell? (a.add 1) = some c1 ∧ w.cell? (a.add 2) = some c2 := by
  unfold World.cells? at h
  split at h
  · rw [show List.range 3 = [0, 1, 2] from rfl] at h
    cases h0 : w.cell? (a.add 0) <;> cases h1 : w.cell? (a.add 1) <;> cases h2 : w.cell? (a.add 2) <;> simp_all
  · cases h
/-- A slice of ST, read. -/
theorem open_sts {H : Type} {enc : TypeId × Value → H} {W : World} {sp : Nat → Bool} {held : Bool} {a : Option Addr} {len cap : Nat} {d : DataW H} {p : List MemPlace} (h : DataW.Trod enc Try.prog W 0 sp held 29 (.slice a len cap) d p) : ∃ ts, STs W a len cap ts := by
  obtain ⟨fuel, hf⟩ := h
  rcases Go.Deep.open_slice Try.underlying29 hf with ⟨hcs, _⟩ | ⟨x, l, c, m, n, D, Pl, hcs, _, hl, hm, hmm, _, hx⟩
  · simp [Value.cells] at hcs
    obtain ⟨rfl, rfl, rfl⟩ := hcs
    exact ⟨[], rfl, Nat.le_refl _, Nat.zero_le _, .inl ⟨rfl, fun _ => rfl⟩⟩
  · simp [Value.cells] at hcs
    obtain ⟨rfl, rfl, rfl⟩ := hcs
    by_cases h0 : len = 0
    · subst h0
      exact ⟨[], rfl, hl, hm, .inl ⟨rfl, fun h => by cases h⟩⟩
    · have hlm : len ≤ m := by rw [hmm]; split <;> omega
      have key : ∀ i, i < len → ∃ t : K3, (W.cell? ((x.add (i * 3)).add 0) = some (.string t.ty) ∧ W.cell? ((x.add (i * 3)).add 1) = some (.bool t.wild) ∧ W.cell? ((x.add (i * 3)).add 2) = some (.string t.rel)) ∧ t.ty.size ≤ maxLen ∧ t.rel.size ≤ maxLen := by
        intro i hi
        obtain ⟨cs', hc, ht⟩ := hx i (by omega)
        rw [cells28] at hc
        obtain ⟨t, rfl, m1, m2⟩ := open_st ht
        exact ⟨t, cells3 hc, m1, m2⟩
      obtain ⟨b, off, spot⟩ := x
      have hsp : spot = none := by
        obtain ⟨t, ⟨c0, _, _⟩, _⟩ := key 0 (by omega)
        cases spot with
        | none => rfl
        | some z => simp [Addr.add, World.cell?] at c0; split at c0 <;> simp at c0
      subst hsp
      obtain ⟨ts, hts, hp⟩ := list_of _ len key
      refine ⟨ts, hts, hl, hm, .inr ⟨b, off, rfl, fun i t ht => ?_⟩⟩
      obtain ⟨⟨c0, c1, c2⟩, m1, m2⟩ := hp i t ht
      rw [addr_add, addr_add] at c0 c1 c2
      exact ⟨c0, c1, c2, m1, m2⟩
end Go.Proofs.Qxb6604017a
