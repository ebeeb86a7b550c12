import Derived.Test.Qxb6603969aKeyB
import Derived.Test.Qxb6603969aPair
namespace Go.Proofs.Qxb6603969a
open Go.RowKit
theorem Try.info22 : (Try.prog.info? 22).map (fun i => (i.zero, i.size, i.bytes)) = some (some (.slice none 0 0), 1, 24) := by kernel_rfl

def Apart (u v : Value) : Prop := u.ownBlock = none ∨ u.ownBlock ≠ v.ownBlock
/-- A row beside the one that is appended to stays, and stays apart. -/
theorem row_kept {w w' : World} {b : Nat} {e : TypeId} {u v v' : Value} {n : Nat} {xs : List Value} (hu : w.ownsRow b e 1 u n xs) (hs : Apart u v) (hg : w.grownBy w' v.ownBlock) (hat : v'.ownBlock = v.ownBlock ∨ v'.ownBlock = some w.heap.size) : w'.ownsRow b e 1 u n xs ∧ Apart u v' := by
  refine ⟨hu.kept hg hs, ?_⟩
  rcases hs with h | h
  · exact .inl h
  · rcases hat with h1 | h1
    · right; rw [h1]; exact h
    · right; rw [h1]; intro e2; have := (hu.lt _ e2).2; omega
theorem apart_symm {u v : Value} (h : Apart u v) : Apart v u := by
  unfold Apart at *
  cases hu : u.ownBlock <;> cases hv : v.ownBlock <;> simp_all
  intro e; exact h e.symm
theorem apart_nil (v : Value) : Apart (.slice none 0 0) v := .inl rfl

theorem key_char {L done rest : List (List Int)} {a b : List Int} {x : Int} (h : L = done ++ (a ++ x :: b) :: rest) : keyL L = (keyL done ++ kescL a) ++ (kesc x ++ (kescL b ++ 0 :: 1 :: keyL rest)) := by
  rw [h, keyL_append]; simp [keyL, kescL_append, kescL]
theorem key_dot {L done rest : List (List Int)} {a : List Int} (h : L = done ++ (a ++ []) :: rest) : keyL L = (keyL done ++ kescL a) ++ ([0, 1] ++ keyL rest) := by
  rw [h, keyL_append]; simp [keyL]

/-- The rows of the labels read so far. -/
def Rows8 (w : World) (B : Nat) (done : List (List Int)) (vals : List Value) (lv cv : Value) : Prop :=
  vals.length = done.length ∧ ∀ (j : Nat) (v : Value), vals[j]? = some v → ∃ l, done[j]? = some l ∧ l ≠ [] ∧ w.ownsRow B 5 1 v l.length ((l.map low).map (Value.int .u8)) ∧ Apart v lv ∧ Apart v cv

structure RDs (L : List (List Int)) (w : World) (done : List (List Int)) (a : List Int) (vals : List Value) (lv cv : Value) (wr : World) : Prop where
  lown : wr.ownsRow w.heap.size 22 1 lv done.length vals
  cown : wr.ownsRow w.heap.size 5 1 cv a.length ((a.map low).map (Value.int .u8))
  cnil : a = [] → cv = .slice none 0 0
  rows : Rows8 wr w.heap.size done vals lv cv
  sep : Apart lv cv
  below : Below w.heap.size w wr
  st : (L = done ∧ a = []) ∨ ∃ b rest, L = done ++ (a ++ b) :: rest
def RD (L : List (List Int)) (w : World) (lv cv iv : Value) (wr : World) : Prop :=
  ∃ (done : List (List Int)) (a : List Int) (i : Nat) (vals : List Value), i = (keyL done ++ kescL a).length ∧ iv = .int .i64 i ∧ RDs L w done a vals lv cv wr

theorem Rows8.step {w w' : World} {B : Nat} {done : List (List Int)} {vals : List Value} {lv cv v v' : Value} (h : Rows8 w B done vals lv cv) (hv : ∀ u, Apart u lv → Apart u cv → Apart u v) (hg : w.grownBy w' v.ownBlock) (hat : v'.ownBlock = v.ownBlock ∨ v'.ownBlock = some w.heap.size) :
    vals.length = done.length ∧ ∀ (j : Nat) (u : Value), vals[j]? = some u → ∃ l, done[j]? = some l ∧ l ≠ [] ∧ w'.ownsRow B 5 1 u l.length ((l.map low).map (Value.int .u8)) ∧ Apart u lv ∧ Apart u cv ∧ Apart u v' := by
  refine ⟨h.1, fun j u hu => ?_⟩
  obtain ⟨l, h1, h2, h3, h4, h5⟩ := h.2 j u hu
  obtain ⟨h6, h7⟩ := row_kept h3 (hv u h4 h5) hg hat
  exact ⟨l, h1, h2, h6, h4, h5, h7⟩
theorem Rows8.alloc {w : World} {B : Nat} {done : List (List Int)} {vals : List Value} {lv cv : Value} (h : Rows8 w B done vals lv cv) (o : Obj) : Rows8 (w.alloc o) B done vals lv cv :=
  ⟨h.1, fun j u hu => by obtain ⟨l, h1, h2, h3, h4, h5⟩ := h.2 j u hu; exact ⟨l, h1, h2, h3.alloc o, h4, h5⟩⟩

/-- one byte more in cur -/
theorem rd_char {L done rest : List (List Int)} {a b : List Int} {x : Int} {i d : Nat} {w wr w' : World} {o : Obj} {vals : List Value} {lv cv v' : Value} (hL : L = done ++ (a ++ x :: b) :: rest) (hi : (keyL done ++ kescL a).length = i) (hd : (kesc x).length = d)
    (h : RDs L w done a vals lv cv wr) (hown : w'.ownsRow w.heap.size 5 1 v' (a.length + 1) ((a.map low).map (Value.int .u8) ++ [.int .u8 (low x)])) (hg : (wr.alloc o).grownBy w' cv.ownBlock) (hat : v'.ownBlock = cv.ownBlock ∨ v'.ownBlock = some (wr.alloc o).heap.size) :
    RD L w lv v' (.int .i64 ((i : Int) + d)) w' := by
  have hs1 := h.below.size
  obtain ⟨h1, h2⟩ := row_kept (h.lown.alloc o) h.sep hg hat
  obtain ⟨r1, r2⟩ := (h.rows.alloc o).step (v := cv) (fun u _ h => h) hg hat
  refine ⟨done, a ++ [x], i + d, vals, ?_, by go_num, ⟨h1, ?_, fun e => by simp at e, ⟨r1, fun j u hu => ?_⟩, h2, ?_, .inr ⟨b, rest, by simpa using hL⟩⟩⟩
  · rw [← hi, ← hd, kescL_append]; simp [kescL]; omega
  · simpa using hown
  · obtain ⟨l, q1, q2, q3, q4, _, q6⟩ := r2 j u hu
    exact ⟨l, q1, q2, q3, q4, q6⟩
  · exact (h.below.alloc hs1 o).grown hg (by rw [World.size_alloc]; omega) (fun k hk => (h.cown.lt k hk).1)

/-- the label is done -/
theorem rd_push {L done rest : List (List Int)} {a : List Int} {i : Nat} {w wr w' : World} {o : Obj} {vals : List Value} {lv cv v' : Value} (hL : L = done ++ (a ++ []) :: rest) (hi : (keyL done ++ kescL a).length = i) (ha : a ≠ [])
    (h : RDs L w done a vals lv cv wr) (hown : w'.ownsRow w.heap.size 22 1 v' (done.length + 1) (vals ++ [cv])) (hg : (wr.alloc o).grownBy w' lv.ownBlock) (hat : v'.ownBlock = lv.ownBlock ∨ v'.ownBlock = some (wr.alloc o).heap.size) :
    RD L w v' (.slice none 0 0) (.int .i64 ((i : Int) + 2)) w' := by
  have hs1 := h.below.size
  obtain ⟨h1, h2⟩ := row_kept (h.cown.alloc o) (apart_symm h.sep) hg hat
  obtain ⟨r1, r2⟩ := (h.rows.alloc o).step (v := lv) (fun u h _ => h) hg hat
  refine ⟨done ++ [a], [], i + 2, vals ++ [cv], ?_, by go_num, ⟨by simpa using hown, World.ownsRow_nil _ _ _ _, fun _ => rfl, ⟨by simp [r1], fun j u hu => ?_⟩, apart_symm (apart_nil _), ?_, ?_⟩⟩
  · rw [← hi, keyL_append]; simp [keyL, kescL]; omega
  · by_cases hj : j < vals.length
    · rw [List.getElem?_append_left hj] at hu
      obtain ⟨l, q1, q2, q3, q4, _, q6⟩ := r2 j u hu
      exact ⟨l, by rw [List.getElem?_append_left (by omega)]; exact q1, q2, q3, q6, apart_symm (apart_nil _)⟩
    · have hj2 : j = vals.length := by
        have := (List.getElem?_eq_some_iff.1 hu).1
        simp at this; omega
      subst hj2
      simp at hu
      subst hu
      exact ⟨a, by rw [r1]; simp, ha, h1, h2, apart_symm (apart_nil _)⟩
  · exact (h.below.alloc hs1 o).grown hg (by rw [World.size_alloc]; omega) (fun k hk => (h.lown.lt k hk).1)
  · cases rest with
    | nil => left; simpa using hL
    | cons l r => right; exact ⟨l, r, by simpa using hL⟩
end Go.Proofs.Qxb6603969a
