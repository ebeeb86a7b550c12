import Derived.Test.Qxb6604039aProg
import Derived.Test.Qxb6604039aBfs
import Derived.WalkKit
import Derived.WalkSpells
import Derived.WalkSmall
import Derived.Deep.QuietTactic
import Derived.BigQuiet
import Derived.Maps.AppendAt
import Derived.Deep.RegionHeld3
import Derived.Deep.LoopGhost
namespace Go.Proofs.Qxb6604039a
open Go.RowKit

/-- A block of n cells of type e. -/
def Row (w : World) (B : Nat) (e : TypeId) (n : Nat) (f : Nat → Value) : Prop :=
  ∃ C : Array Value, w.heap[B]? = some (.cells C e) ∧ C.size = n ∧ ∀ i, i < n → C[i]? = some (f i)
section
variable {w w' : World} {B : Nat} {e : TypeId} {n : Nat} {f : Nat → Value}
theorem Row.lt (h : Row w B e n f) : B < w.heap.size := by
  obtain ⟨C, h1, _⟩ := h; exact (Array.getElem?_eq_some_iff.1 h1).1
theorem Row.cell (h : Row w B e n f) {i : Nat} (hi : i < n) : w.cell? ⟨B, i, none⟩ = some (f i) := by
  obtain ⟨C, h1, _, h3⟩ := h
  simp only [World.cell?, h1]; exact h3 i hi
theorem Row.frozen (h : Row w B e n f) (i : Nat) : w.frozen? ⟨B, i, none⟩ = false := by
  obtain ⟨C, h1, _⟩ := h; simp [World.frozen?, h1]
theorem Row.of_block (h : Row w B e n f) (hb : w'.heap[B]? = w.heap[B]?) : Row w' B e n f := by
  obtain ⟨C, h1, h2, h3⟩ := h; exact ⟨C, by rw [hb]; exact h1, h2, h3⟩
theorem heap_set {i : Nat} {C : Array Value} {v : Value} (h : w.heap[B]? = some (.cells C e)) : (w.setCell ⟨B, i, none⟩ v).heap[B]? = some (.cells (C.setIfInBounds i v) e) := by
  simp only [World.setCell, Array.getElem?_modify, h]
  simp
theorem Row.set (h : Row w B e n f) {i : Nat} (hi : i < n) (x : Value) : Row (w.setCell ⟨B, i, none⟩ x) B e n (upd f i x) := by
  obtain ⟨C, h1, h2, h3⟩ := h
  refine ⟨C.setIfInBounds i x, heap_set h1, by simp [h2], fun j hj => ?_⟩
  by_cases e : j = i
  · subst e; rw [Array.getElem?_setIfInBounds_self_of_lt (by omega), upd_same]
  · rw [Array.getElem?_setIfInBounds_ne (by omega), upd_ne _ _ e]; exact h3 j hj
theorem Row.other (h : Row w B e n f) {a : Addr} (hne : B ≠ a.block) (x : Value) : Row (w.setCell a x) B e n f := h.of_block (Below.heap_setCell w a x B hne)
theorem Row.congr {f' : Nat → Value} (h : Row w B e n f) (hf : ∀ i, i < n → f i = f' i) : Row w B e n f' := by
  obtain ⟨C, h1, h2, h3⟩ := h; exact ⟨C, h1, h2, fun i hi => by rw [← hf i hi]; exact h3 i hi⟩
theorem Row.drew (h : Row w B e n f) : Row w.drew B e n f := h
theorem Row.alloc (h : Row w B e n f) (o : Obj) : Row (w.alloc o) B e n f := h.of_block (Below.heap_alloc w o B h.lt)
theorem Row.below (h : Row w B e n f) {b : Nat} (hb : Below b w w') (hB : B < b) : Row w' B e n f := h.of_block (hb.block B hB)
theorem Row.grown (h : Row w B e n f) {row : Option Nat} (hg : w.grownBy w' row) (hne : row ≠ some B) : Row w' B e n f := h.of_block (hg.block B h.lt (fun e => hne e.symm))
theorem row_made {b : Nat} {xs : List Value} (h : w.ownsRow b e 1 (.slice (some ⟨B, 0, none⟩) n n) n xs) {z : Value} (hz : ∀ x ∈ xs, x = z) : Row w B e n (fun _ => z) := by
  obtain ⟨hl, h⟩ := h
  rcases h with ⟨h, _⟩ | ⟨g', cap, cur, hv, _, hh, _, _, hs, ht⟩
  · simp at h
  · simp only [Value.slice.injEq, Option.some.injEq, Addr.mk.injEq, and_true, true_and] at hv
    obtain ⟨rfl, rfl⟩ := hv
    refine ⟨cur, hh, by simpa using hs, fun i hi => ?_⟩
    have hi' : i < cur.size := by simp at hs; omega
    rw [Array.getElem?_eq_getElem hi']
    have hm : cur[i] ∈ cur.toList.take (n * 1) := by
      rw [List.take_of_length_le (by simp at hs ⊢; omega)]
      exact Array.getElem_mem_toList hi'
    rw [ht] at hm
    rw [hz _ hm]
end
theorem upd_map {α : Type} (f : Nat → α) (F : α → Value) (m : Nat) (x : α) : (fun i => F (upd f m x i)) = upd (fun i => F (f i)) m (F x) := by
  funext i; unfold upd; split <;> rfl

theorem Try.info3 : (Try.prog.info? 3).map (fun i => (i.zero, i.size, i.bytes)) = some (some (.int .i64 0), 1, 8) := by kernel_rfl
theorem Try.info75 : (Try.prog.info? 75).map (fun i => (i.zero, i.size, i.bytes)) = some (some (.agg #[.int .i64 0, .int .i64 0]), 2, 16) := by kernel_rfl
/-- The frames' cells. -/
def flat (c : List (Nat × Nat)) : List Value := c.flatMap fun x => [.int .i64 x.1, .int .i64 x.2]
theorem flat_append (a b : List (Nat × Nat)) : flat (a ++ b) = flat a ++ flat b := by simp [flat]
theorem flat_length (a : List (Nat × Nat)) : (flat a).length = a.length * 2 := by
  induction a with
  | nil => rfl
  | cons x a ih => rw [show flat (x :: a) = [.int .i64 x.1, .int .i64 x.2] ++ flat a from rfl, List.length_append, ih]; simp; omega
abbrev ints (l : List Nat) : List Value := l.map fun x : Nat => .int .i64 (x : Int)

/-- What components holds in memory: t is the first block of its own. -/
structure Mem (w : World) (t n : Nat) (s : TS) : Prop where
  o : Row w t 3 n (fun i => .int .i64 (s.ord i))
  xo : Row w (t + 1) 24 1 (fun _ => .slice (some ⟨t, 0, none⟩) n n)
  l : Row w (t + 2) 3 n (fun i => .int .i64 (s.low i))
  xl : Row w (t + 3) 24 1 (fun _ => .slice (some ⟨t + 2, 0, none⟩) n n)
  c : Row w (t + 4) 3 n (fun i => .int .i64 (s.comp i))
  nn : Row w (t + 5) 4 n (fun i => .bool (s.on i))
  xn : Row w (t + 6) 30 1 (fun _ => .slice (some ⟨t + 5, 0, none⟩) n n)
  ca : ∃ v, Row w (t + 7) 73 1 (fun _ => v) ∧ w.ownsRow (t + 10) 75 2 v s.calls.length (flat s.calls)
  st : ∃ v, Row w (t + 8) 24 1 (fun _ => v) ∧ w.ownsRow (t + 10) 3 1 v s.stack.length (ints s.stack)
  v : Row w (t + 9) 3 1 (fun _ => .int .i64 s.vis)

section
variable {w w' : World} {t n : Nat} {s : TS}
theorem Mem.drew (h : Mem w t n s) : Mem w.drew t n s :=
  ⟨h.o.drew, h.xo.drew, h.l.drew, h.xl.drew, h.c.drew, h.nn.drew, h.xn.drew, h.ca, h.st, h.v.drew⟩
theorem Mem.setO (h : Mem w t n s) {i : Nat} (hi : i < n) (x : Int) : Mem (w.setCell ⟨t, i, none⟩ (.int .i64 x)) t n { s with ord := upd s.ord i x } := by
  obtain ⟨v1, r1, o1⟩ := h.ca
  obtain ⟨v2, r2, o2⟩ := h.st
  exact ⟨by rw [upd_map s.ord (Value.int .i64)]; exact h.o.set hi _, h.xo.other (by simp) _, h.l.other (by simp) _, h.xl.other (by simp) _, h.c.other (by simp) _, h.nn.other (by simp) _, h.xn.other (by simp) _, ⟨v1, r1.other (by simp) _, ownsRow_setCell_below o1 (by simp) _⟩, ⟨v2, r2.other (by simp) _, ownsRow_setCell_below o2 (by simp) _⟩, h.v.other (by simp) _⟩
theorem Mem.setL (h : Mem w t n s) {i : Nat} (hi : i < n) (x : Int) : Mem (w.setCell ⟨t + 2, i, none⟩ (.int .i64 x)) t n { s with low := upd s.low i x } := by
  obtain ⟨v1, r1, o1⟩ := h.ca
  obtain ⟨v2, r2, o2⟩ := h.st
  exact ⟨h.o.other (by simp) _, h.xo.other (by simp) _, by rw [upd_map s.low (Value.int .i64)]; exact h.l.set hi _, h.xl.other (by simp) _, h.c.other (by simp) _, h.nn.other (by simp) _, h.xn.other (by simp) _, ⟨v1, r1.other (by simp) _, ownsRow_setCell_below o1 (by simp) _⟩, ⟨v2, r2.other (by simp) _, ownsRow_setCell_below o2 (by simp) _⟩, h.v.other (by simp) _⟩
theorem Mem.setC (h : Mem w t n s) {i : Nat} (hi : i < n) (x : Int) : Mem (w.setCell ⟨t + 4, i, none⟩ (.int .i64 x)) t n { s with comp := upd s.comp i x } := by
  obtain ⟨v1, r1, o1⟩ := h.ca
  obtain ⟨v2, r2, o2⟩ := h.st
  exact ⟨h.o.other (by simp) _, h.xo.other (by simp) _, h.l.other (by simp) _, h.xl.other (by simp) _, by rw [upd_map s.comp (Value.int .i64)]; exact h.c.set hi _, h.nn.other (by simp) _, h.xn.other (by simp) _, ⟨v1, r1.other (by simp) _, ownsRow_setCell_below o1 (by simp) _⟩, ⟨v2, r2.other (by simp) _, ownsRow_setCell_below o2 (by simp) _⟩, h.v.other (by simp) _⟩
theorem Mem.setN (h : Mem w t n s) {i : Nat} (hi : i < n) (x : Bool) : Mem (w.setCell ⟨t + 5, i, none⟩ (.bool x)) t n { s with on := upd s.on i x } := by
  obtain ⟨v1, r1, o1⟩ := h.ca
  obtain ⟨v2, r2, o2⟩ := h.st
  exact ⟨h.o.other (by simp) _, h.xo.other (by simp) _, h.l.other (by simp) _, h.xl.other (by simp) _, h.c.other (by simp) _, by rw [upd_map s.on Value.bool]; exact h.nn.set hi _, h.xn.other (by simp) _, ⟨v1, r1.other (by simp) _, ownsRow_setCell_below o1 (by simp) _⟩, ⟨v2, r2.other (by simp) _, ownsRow_setCell_below o2 (by simp) _⟩, h.v.other (by simp) _⟩
theorem Mem.setV (h : Mem w t n s) (x : Nat) : Mem (w.setCell ⟨t + 9, 0, none⟩ (.int .i64 x)) t n { s with vis := x } := by
  obtain ⟨v1, r1, o1⟩ := h.ca
  obtain ⟨v2, r2, o2⟩ := h.st
  exact ⟨h.o.other (by simp) _, h.xo.other (by simp) _, h.l.other (by simp) _, h.xl.other (by simp) _, h.c.other (by simp) _, h.nn.other (by simp) _, h.xn.other (by simp) _, ⟨v1, r1.other (by simp) _, ownsRow_setCell_below o1 (by simp) _⟩, ⟨v2, r2.other (by simp) _, ownsRow_setCell_below o2 (by simp) _⟩, (h.v.set (i := 0) (by omega) _).congr (fun i hi => by rw [show i = 0 by omega]; exact upd_same _ _ _)⟩
theorem Mem.ghost (h : Mem w t n s) (c : Nat) (u : List Nat) : Mem w t n { s with cnt := c, unv := u } := ⟨h.o, h.xo, h.l, h.xl, h.c, h.nn, h.xn, h.ca, h.st, h.v⟩
end
end Go.Proofs.Qxb6604039a
