import Derived.Test.Qxb6604039aShim
namespace Go.Proofs.Qxb6604039a
open Go.RowKit
theorem Try.info30 : (Try.prog.info? 30).map (fun i => (i.zero, i.size, i.bytes)) = some (some (.slice none 0 0), 1, 24) := by kernel_rfl

theorem own_ne_row {w : World} {base B : Nat} {e e' : TypeId} {s k n : Nat} {v : Value} {xs : List Value} {f : Nat → Value} (h : w.ownsRow base e s v n xs) (hr : Row w B e' k f) (hne : e' ≠ e) : v.ownBlock ≠ some B := by
  rcases h.2 with ⟨rfl, _⟩ | ⟨g, cap, cur, rfl, _, hh, _⟩
  · simp [Value.ownBlock]
  · intro e
    simp [Value.ownBlock] at e
    subst e
    obtain ⟨C, hC, _⟩ := hr
    rw [hh] at hC
    simp at hC
    exact hne hC.2.symm
theorem setCell_grown (w : World) (a : Addr) (u : Value) : w.grownBy (w.setCell a u) (some a.block) :=
  ⟨rfl, rfl, rfl, by simp, fun k _ hk => heap_setCell_other w a k u (fun e => hk (by simp [e]))⟩

/-- The rows below k are done; their blocks lie below M. -/
def RDone (wr : World) (T n : Nat) (g : List (List Nat)) (k M : Nat) : Prop :=
  ∃ vals : Nat → Value, Row wr T 30 n vals ∧ ∀ i, i < k → ∃ (B : Nat) (f : Nat → Bool), T < B ∧ B < M ∧ vals i = .slice (some ⟨B, 0, none⟩) n n ∧ Row wr B 4 n (fun v => .bool (f v)) ∧ ∀ v, v < n → (f v = true ↔ RP g i v)
theorem RDone.below {wr wr' : World} {T n : Nat} {g : List (List Nat)} {k M : Nat} (h : RDone wr T n g k M) (hb : Below M wr wr') (hT : T < M) : RDone wr' T n g k M := by
  obtain ⟨vals, hr, hv⟩ := h
  refine ⟨vals, hr.below hb hT, fun i hi => ?_⟩
  obtain ⟨B, f, h1, h2, h3, h4, h5⟩ := hv i hi
  exact ⟨B, f, h1, h2, h3, h4.below hb h2, h5⟩
theorem RDone.grown {wr wr' : World} {T n : Nat} {g : List (List Nat)} {k M base m : Nat} {v : Value} {xs : List Value} (h : RDone wr T n g k M) (ho : wr.ownsRow base 3 1 v m xs) (hg : wr.grownBy wr' v.ownBlock) : RDone wr' T n g k M := by
  obtain ⟨vals, hr, hv⟩ := h
  refine ⟨vals, hr.grown hg (own_ne_row ho hr (by decide)), fun i hi => ?_⟩
  obtain ⟨B, f, h1, h2, h3, h4, h5⟩ := hv i hi
  exact ⟨B, f, h1, h2, h3, h4.grown hg (own_ne_row ho h4 (by decide)), h5⟩
theorem RDone.mono {wr : World} {T n : Nat} {g : List (List Nat)} {k M M' : Nat} (h : RDone wr T n g k M) (hM : M ≤ M') : RDone wr T n g k M' := by
  obtain ⟨vals, hr, hv⟩ := h
  refine ⟨vals, hr, fun i hi => ?_⟩
  obtain ⟨B, f, h1, h2, h3⟩ := hv i hi
  exact ⟨B, f, h1, by omega, h3⟩

/-- The walk from s, in memory: the queue v holds q, block B holds what is seen. -/
structure RI (w wr : World) (T B n : Nat) (g : List (List Nat)) (s : Nat) (v : Value) (q : List Nat) (seen : Nat → Bool) : Prop where
  hT : T < B
  own : wr.ownsRow (T + 1) 3 1 v q.length (ints q)
  row : Row wr B 4 n (fun i => .bool (seen i))
  inv : ∃ unv, BInv g s q seen unv
  done : RDone wr T n g s B
  bel : Below T w wr
theorem RI.le {w wr : World} {T B n : Nat} {g : List (List Nat)} {s : Nat} {v : Value} {q : List Nat} {seen : Nat → Bool} (h : RI w wr T B n g s v q seen) : q.length ≤ g.length := by
  obtain ⟨unv, hi⟩ := h.inv
  have := hi.len; omega
theorem RI.mem {w wr : World} {T B n : Nat} {g : List (List Nat)} {s : Nat} {v : Value} {q : List Nat} {seen : Nat → Bool} (h : RI w wr T B n g s v q seen) {u : Nat} (hu : seen u = true) : u ∈ q := by
  obtain ⟨unv, hi⟩ := h.inv
  exact (hi.seen_iff u).1 hu
theorem RI.add {w wr w' : World} {T B n : Nat} {g : List (List Nat)} {s : Nat} {v v' : Value} {q : List Nat} {seen : Nat → Bool} (h : RI w wr T B n g s v q seen) {m : Nat} (hm : m < n) (hL : g.length = n) (hs : seen m = false) (hr : RP g s m) (o : Obj)
    (hg : ((wr.setCell ⟨B, m, none⟩ (.bool true)).alloc o).grownBy w' v.ownBlock) (ho : w'.ownsRow (T + 1) 3 1 v' (q.length + 1) (ints q ++ [.int .i64 m])) : RI w w' T B n g s v' (q ++ [m]) (upd seen m true) := by
  obtain ⟨unv, hi⟩ := h.inv
  have hB := h.row.lt
  have o1 : (wr.setCell ⟨B, m, none⟩ (.bool true)).ownsRow (T + 1) 3 1 v q.length (ints q) := h.own.kept (setCell_grown _ _ _) (.inr (own_ne_row h.own h.row (by decide)))
  have o2 := o1.alloc o
  have r1 : Row (wr.setCell ⟨B, m, none⟩ (.bool true)) B 4 n (fun i => .bool (upd seen m true i)) := by
    rw [upd_map seen Value.bool]; exact h.row.set hm _
  have d1 : RDone (wr.setCell ⟨B, m, none⟩ (.bool true)) T n g s B := h.done.below ((Below.refl B wr).setCell (by simp) _) h.hT
  have d2 : RDone ((wr.setCell ⟨B, m, none⟩ (.bool true)).alloc o) T n g s B := d1.below ((Below.refl _ _).alloc (by simp; omega) _) h.hT
  refine ⟨h.hT, by simpa [ints] using ho, (r1.alloc o).grown hg (own_ne_row o2 (r1.alloc o) (by decide)), ⟨_, binv_add hi (by omega) hs hr⟩, d2.grown o2 hg, ?_⟩
  have hT := h.hT
  have b1 : Below T w (wr.setCell ⟨B, m, none⟩ (.bool true)) := h.bel.setCell (by simp; omega) _
  exact (b1.alloc (by simp; omega) o).grown hg (by simp; omega) (fun k hk => by have := (o2.lt k hk).1; omega)
/-- A new row: nothing is seen. -/
theorem ri_start {w wr : World} {T n : Nat} {g : List (List Nat)} {s gq len cap : Nat} {q : List Nat} (hT : T < wr.heap.size) (ho : wr.ownsRow (T + 1) 3 1 (.slice (some ⟨gq, 0, none⟩) len cap) len (ints q)) (hd : RDone wr T n g s wr.heap.size) (hb : Below T w wr) :
    RI w (wr.alloc (.cells (madeCells #[.bool false] n) 4)) T wr.heap.size n g s (.slice (some ⟨gq, 0, none⟩) 0 cap) [] (fun _ => false) where
  hT := hT
  own := (own_cut (xs := []) (ys := ints q) ho (by simp) (Nat.zero_le _)).alloc _
  row := row_make _ _ _ _
  inv := ⟨_, binv_start g s⟩
  done := hd.below ((Below.refl _ _).alloc (Nat.le_refl _) _) hT
  bel := hb.alloc (by omega) _
/-- The row is laid into the answer. -/
theorem RI.lay {w wr : World} {T B n : Nat} {g : List (List Nat)} {s : Nat} {v : Value} {q : List Nat} {seen : Nat → Bool} (h : RI w wr T B n g s v q seen) (hs : s < n) (h1 : ∀ u ∈ sc g s, u ∈ q) (h2 : ∀ v ∈ q, ∀ u ∈ sc g v, u ∈ q) :
    RDone (wr.setCell ⟨T, s, none⟩ (.slice (some ⟨B, 0, none⟩) n n)) T n g (s + 1) wr.heap.size := by
  obtain ⟨unv, hi⟩ := h.inv
  obtain ⟨vals, hr, hv⟩ := h.done
  have hT := h.hT
  refine ⟨upd vals s (.slice (some ⟨B, 0, none⟩) n n), hr.set hs _, fun i hil => ?_⟩
  by_cases e : i = s
  · subst e
    exact ⟨B, seen, h.hT, h.row.lt, upd_same _ _ _, h.row.other (by simp; omega) _, fun v _ => binv_end hi h1 h2 v⟩
  · obtain ⟨B', f, h3, h4, h5, h6, h7⟩ := hv i (by omega)
    exact ⟨B', f, h3, by have := h6.lt; omega, by rw [upd_ne _ _ e]; exact h5, h6.other (by simp; omega) _, h7⟩
end Go.Proofs.Qxb6604039a
