import Derived.Test.Qxb6604039aMem
namespace Go.Proofs.Qxb6604039a
open Go.RowKit

theorem own_apart {w : World} {b1 b2 : Nat} {e1 e2 : TypeId} {s1 s2 : Nat} {u v : Value} {n1 n2 : Nat} {xs ys : List Value} (h1 : w.ownsRow b1 e1 s1 u n1 xs) (h2 : w.ownsRow b2 e2 s2 v n2 ys) (hne : e1 ≠ e2) : u.ownBlock = none ∨ u.ownBlock ≠ v.ownBlock := by
  rcases h1.2 with ⟨rfl, _⟩ | ⟨g, cap, cur, rfl, _, hh, _⟩
  · exact .inl rfl
  · right
    rcases h2.2 with ⟨rfl, _⟩ | ⟨g2, cap2, cur2, rfl, _, hh2, _⟩
    · simp [Value.ownBlock]
    · intro e
      simp [Value.ownBlock] at e
      subst e
      rw [hh] at hh2
      simp at hh2
      exact hne hh2.2
theorem own_ne {w : World} {b : Nat} {e : TypeId} {s : Nat} {v : Value} {n : Nat} {xs : List Value} (h : w.ownsRow b e s v n xs) {k : Nat} (hk : k < b) : v.ownBlock ≠ some k := fun e => by
  have := (h.lt k e).1; omega
section
variable {w w' : World} {t n : Nat} {s : TS}
theorem Mem.pushS (h : Mem w t n s) {v v' : Value} {len : Nat} {o : Obj} {m : Nat} (ho : w.ownsRow (t + 10) 3 1 v len (ints s.stack)) (hg : (w.alloc o).grownBy w' v.ownBlock) (ho' : w'.ownsRow (t + 10) 3 1 v' (len + 1) (ints s.stack ++ [.int .i64 m])) (hl : len = s.stack.length) :
    Mem (w'.setCell ⟨t + 8, 0, none⟩ v') t n { s with stack := s.stack ++ [m] } := by
  obtain ⟨v1, r1, o1⟩ := h.ca
  obtain ⟨v2, r2, _⟩ := h.st
  have key : ∀ {B e k f}, Row w B e k f → B < t + 10 → Row w' B e k f := fun hr hB => (hr.alloc o).grown hg (own_ne ho hB)
  have o1' : w'.ownsRow (t + 10) 75 2 v1 s.calls.length (flat s.calls) := (o1.alloc o).kept hg (own_apart o1 ho (by decide))
  exact ⟨(key h.o (by omega)).other (by simp) _, (key h.xo (by omega)).other (by simp) _, (key h.l (by omega)).other (by simp) _, (key h.xl (by omega)).other (by simp) _, (key h.c (by omega)).other (by simp) _, (key h.nn (by omega)).other (by simp) _, (key h.xn (by omega)).other (by simp) _,
    ⟨v1, (key r1 (by omega)).other (by simp) _, ownsRow_setCell_below o1' (by simp) _⟩,
    ⟨v', ((key r2 (by omega)).set (i := 0) (by omega) _).congr (fun i hi => by rw [show i = 0 by omega]; exact upd_same _ _ _), by
      have := ownsRow_setCell_below ho' (a := ⟨t + 8, 0, none⟩) (by simp) v'
      subst hl
      simpa [ints] using this⟩, (key h.v (by omega)).other (by simp) _⟩
theorem Mem.pushC (h : Mem w t n s) {v v' : Value} {len : Nat} {o : Obj} {m : Nat} (ho : w.ownsRow (t + 10) 75 2 v len (flat s.calls)) (hg : (w.alloc o).grownBy w' v.ownBlock) (ho' : w'.ownsRow (t + 10) 75 2 v' (len + 1) (flat s.calls ++ [.int .i64 m, .int .i64 0])) (hl : len = s.calls.length) :
    Mem (w'.setCell ⟨t + 7, 0, none⟩ v') t n { s with calls := s.calls ++ [(m, 0)] } := by
  obtain ⟨v1, r1, _⟩ := h.ca
  obtain ⟨v2, r2, o2⟩ := h.st
  have key : ∀ {B e k f}, Row w B e k f → B < t + 10 → Row w' B e k f := fun hr hB => (hr.alloc o).grown hg (own_ne ho hB)
  have o2' : w'.ownsRow (t + 10) 3 1 v2 s.stack.length (ints s.stack) := (o2.alloc o).kept hg (own_apart o2 ho (by decide))
  exact ⟨(key h.o (by omega)).other (by simp) _, (key h.xo (by omega)).other (by simp) _, (key h.l (by omega)).other (by simp) _, (key h.xl (by omega)).other (by simp) _, (key h.c (by omega)).other (by simp) _, (key h.nn (by omega)).other (by simp) _, (key h.xn (by omega)).other (by simp) _,
    ⟨v', ((key r1 (by omega)).set (i := 0) (by omega) _).congr (fun i hi => by rw [show i = 0 by omega]; exact upd_same _ _ _), by
      have := ownsRow_setCell_below ho' (a := ⟨t + 7, 0, none⟩) (by simp) v'
      subst hl
      simpa [flat_append, flat] using this⟩,
    ⟨v2, (key r2 (by omega)).other (by simp) _, ownsRow_setCell_below o2' (by simp) _⟩, (key h.v (by omega)).other (by simp) _⟩
end
end Go.Proofs.Qxb6604039a
