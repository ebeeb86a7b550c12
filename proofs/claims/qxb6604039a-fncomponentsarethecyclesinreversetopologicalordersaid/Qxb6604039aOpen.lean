import Derived.Test.Qxb6604039aClone
import Derived.ProofKit
import Derived.Deep.Matrix
namespace Go.Proofs.Qxb6604039a
open Go.ChangeShapes Go.WideShapes Go.ChangeAt Go.RowKit
theorem cells24 : Try.prog.cellsOf 24 = 1 := by kernel_rfl
theorem cells3 : Try.prog.cellsOf 3 = 1 := by kernel_rfl
theorem addr_add (b off j : Nat) : (⟨b, off, none⟩ : Addr).add j = ⟨b, off + j, none⟩ := by unfold Addr.add; split <;> simp_all
theorem spot_none {w : World} {x : Addr} {v : Value} (h : w.cell? (x.add 0) = some v) : ∃ b off, x = ⟨b, off, none⟩ := by
  obtain ⟨b, off, spot⟩ := x
  cases spot with
  | none => exact ⟨b, off, rfl⟩
  | some z => simp [Addr.add, World.cell?] at h; split at h <;> simp at h
/-- The argument, read. -/
theorem open_graph {H : Type} {enc : TypeId × Value → H} {W : World} {held : Bool} {a : Option Addr} {len cap : Nat} {d : DataW H} {p : List MemPlace} (h : DataW.Trod enc Try.prog W 0 (fun _ => true) held 22 (.slice a len cap) d p) :
    ∃ G : List (List Int), G.length = len ∧ len ≤ maxLen ∧ (a = none → cap = 0) ∧ GraphAt W a G := by
  obtain ⟨fuel, hf⟩ := h
  rcases Go.Deep.open_int_rows Try.underlying22 Try.underlying24 Try.underlying3 cells24 cells3 hf with ⟨hcs, _⟩ | ⟨x, l, c, A, L, C, Z, hcs, _, hl, hm, _, hx⟩
  · simp [Value.cells] at hcs
    obtain ⟨rfl, rfl, rfl⟩ := hcs
    exact ⟨[], rfl, Nat.zero_le _, fun _ => rfl, fun i zs hi => by simp at hi⟩
  · simp [Value.cells] at hcs
    obtain ⟨rfl, rfl, rfl⟩ := hcs
    refine ⟨(List.range len).map fun r => (Z r).take (L r), by simp, by omega, fun e => (by cases e), fun i zs hi => ?_⟩
    have hil : i < len := by have := (List.getElem?_eq_some_iff.1 hi).1; simpa using this
    simp [hil] at hi
    subst hi
    obtain ⟨h1, h2, h3, h4, _, h5, h6⟩ := hx i (by omega)
    obtain ⟨b, off, rfl⟩ := spot_none (hx 0 (by omega)).1
    rw [addr_add] at h1
    refine ⟨b, off, A i, C i, rfl, ?_, h5, fun j z hj => ?_⟩
    · rw [h1, List.length_take, h4, Nat.min_eq_left h2]
    · have hjl : j < L i := by have := (List.getElem?_eq_some_iff.1 hj).1; simp at this; omega
      rw [List.getElem?_take, if_pos hjl] at hj
      cases hA : A i with
      | none => have := h5 hA; omega
      | some a' =>
        have hc := (h6 a' hA).2 j (by omega)
        obtain ⟨b', off', rfl⟩ := spot_none ((h6 a' hA).2 0 (by omega))
        rw [addr_add] at hc
        exact ⟨b', off', rfl, by rw [hc]; simp [List.getD, hj]⟩
end Go.Proofs.Qxb6604039a
