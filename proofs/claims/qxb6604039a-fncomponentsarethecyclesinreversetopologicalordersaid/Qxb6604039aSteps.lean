import Derived.Test.Qxb6604039aStart
namespace Go.Proofs.Qxb6604039a
open Go.RowKit

theorem NodesAt.below {w w' : World} {bG n : Nat} {g : List (List Nat)} (h : NodesAt w bG n g) (hb : Below w.heap.size w w') : NodesAt w' bG n g := by
  have key : ∀ {a : Addr} {v : Value}, w.cell? a = some v → w'.cell? a = some v := fun {a v} hc =>
    (World.cell?_of_block (hb.block a.block (World.block_lt_of_cell? w a hc))).trans hc
  refine ⟨h.1, fun v hv => ?_⟩
  obtain ⟨a, c, h1, h2, h3⟩ := h.2 v hv
  refine ⟨a, c, key h1, h2, fun j u hj => ?_⟩
  obtain ⟨h4, b, h5, h6⟩ := h3 j u hj
  exact ⟨h4, b, h5, key h6⟩

theorem own_cut {w : World} {base : Nat} {e : TypeId} {size g cap m a : Nat} {xs ys : List Value} (h : w.ownsRow base e size (.slice (some ⟨g, 0, none⟩) m cap) m (xs ++ ys)) (hx : xs.length = a * size) (ha : a ≤ m) :
    w.ownsRow base e size (.slice (some ⟨g, 0, none⟩) a cap) a xs := by
  obtain ⟨_, h2⟩ := h
  rcases h2 with ⟨h0, _⟩ | ⟨g', cap', cur, hv, hg, hh, hn, hcap, hsz, htake⟩
  · cases h0
  · cases hv
    refine ⟨hx, .inr ⟨g, cap, cur, rfl, hg, hh, by omega, hcap, hsz, ?_⟩⟩
    have h3 : (cur.toList.take (m * size)).take (a * size) = (xs ++ ys).take (a * size) := by rw [htake]
    rw [List.take_take, Nat.min_eq_left (Nat.mul_le_mul_right _ ha)] at h3
    rw [h3, ← hx]
    exact take_len _ _

section
variable {w w' : World} {t n : Nat} {s : TS}
theorem Mem.putCa (h : Mem w t n s) {v : Value} {cs : List (Nat × Nat)} (ho : w.ownsRow (t + 10) 75 2 v cs.length (flat cs)) : Mem (w.setCell ⟨t + 7, 0, none⟩ v) t n { s with calls := cs } := by
  obtain ⟨v1, r1, _⟩ := h.ca
  obtain ⟨v2, r2, o2⟩ := h.st
  exact ⟨h.o.other (by simp) _, h.xo.other (by simp) _, h.l.other (by simp) _, h.xl.other (by simp) _, h.c.other (by simp) _, h.nn.other (by simp) _, h.xn.other (by simp) _, ⟨v, r1.put _, ownsRow_setCell_below ho (by simp) _⟩, ⟨v2, r2.other (by simp) _, ownsRow_setCell_below o2 (by simp) _⟩, h.v.other (by simp) _⟩
theorem Mem.putSt (h : Mem w t n s) {v : Value} {cs : List Nat} (ho : w.ownsRow (t + 10) 3 1 v cs.length (ints cs)) : Mem (w.setCell ⟨t + 8, 0, none⟩ v) t n { s with stack := cs } := by
  obtain ⟨v1, r1, o1⟩ := h.ca
  obtain ⟨v2, r2, o2⟩ := h.st
  exact ⟨h.o.other (by simp) _, h.xo.other (by simp) _, h.l.other (by simp) _, h.xl.other (by simp) _, h.c.other (by simp) _, h.nn.other (by simp) _, h.xn.other (by simp) _, ⟨v1, r1.other (by simp) _, ownsRow_setCell_below o1 (by simp) _⟩, ⟨v, r2.put _, ownsRow_setCell_below ho (by simp) _⟩, h.v.other (by simp) _⟩
theorem flat_set (cs : List (Nat × Nat)) (p k x : Nat) : (flat (cs ++ [(p, k)])).set (cs.length * 2 + 1) (.int .i64 x) = flat (cs ++ [(p, x)]) := by
  rw [flat_append, flat_append, List.set_append_right _ _ (by rw [flat_length]; omega), flat_length, show cs.length * 2 + 1 - cs.length * 2 = 1 by omega]
  rfl
/-- The frame on top, its next edge counted. -/
theorem Mem.bump (h : Mem w t n s) {cs : List (Nat × Nat)} {p k gC cap : Nat} (hr : Row w (t + 7) 73 1 (fun _ => .slice (some ⟨gC, 0, none⟩) (cs.length + 1) cap))
    (ho : w.ownsRow (t + 10) 75 2 (.slice (some ⟨gC, 0, none⟩) (cs.length + 1) cap) (cs.length + 1) (flat (cs ++ [(p, k)]))) (x : Nat) :
    Mem (w.setCell ⟨gC, cs.length * 2 + 1, none⟩ (.int .i64 x)) t n { s with calls := cs ++ [(p, x)] } := by
  obtain ⟨v2, r2, o2⟩ := h.st
  obtain ⟨h1, hg⟩ := ho.stored (cs.length * 2 + 1) (.int .i64 x)
  rw [flat_set] at h1
  have key : ∀ {B e k f}, Row w B e k f → B < t + 10 → Row (w.setCell ⟨gC, cs.length * 2 + 1, none⟩ (.int .i64 x)) B e k f := fun hr hB => hr.grown hg (own_ne ho hB)
  have o2' := o2.kept hg (own_apart o2 ho (by decide))
  exact ⟨key h.o (by omega), key h.xo (by omega), key h.l (by omega), key h.xl (by omega), key h.c (by omega), key h.nn (by omega), key h.xn (by omega), ⟨_, key hr (by omega), by simpa using h1⟩, ⟨v2, key r2 (by omega), o2'⟩, key h.v (by omega)⟩
theorem Mem.eq (h : Mem w t n s) {s' : TS} (e : s = s') : Mem w t n s' := e ▸ h
end

/-- The frame on top of the calls, as it lies in memory. -/
theorem Mem.top {w : World} {t n : Nat} {s : TS} (h : Mem w t n s) {cs : List (Nat × Nat)} {p k : Nat} (hc : s.calls = cs ++ [(p, k)]) :
    ∃ gC cap, t + 10 ≤ gC ∧ cs.length + 1 ≤ cap ∧ Row w (t + 7) 73 1 (fun _ => .slice (some ⟨gC, 0, none⟩) (cs.length + 1) cap) ∧
      w.ownsRow (t + 10) 75 2 (.slice (some ⟨gC, 0, none⟩) (cs.length + 1) cap) (cs.length + 1) (flat (cs ++ [(p, k)])) ∧
      w.cell? ⟨gC, cs.length * 2, none⟩ = some (.int .i64 p) ∧ w.cell? ⟨gC, cs.length * 2 + 1, none⟩ = some (.int .i64 k) ∧ (∀ j, w.frozen? ⟨gC, j, none⟩ = false) := by
  obtain ⟨v, r, o⟩ := h.ca
  rw [hc, List.length_append, List.length_singleton] at o
  rcases o.2 with ⟨_, h0⟩ | ⟨gC, cap, cur, rfl, hg, hh, hle, _⟩
  · omega
  · refine ⟨gC, cap, hg, hle, r, o, ?_, ?_, o.frozenAt⟩
    · rw [o.cellAt _ (by omega), flat_append, List.getElem?_append_right (by rw [flat_length]; omega), flat_length, Nat.sub_self]; rfl
    · rw [o.cellAt _ (by omega), flat_append, List.getElem?_append_right (by rw [flat_length]; omega), flat_length, show cs.length * 2 + 1 - cs.length * 2 = 1 by omega]; rfl
/-- The stack as it lies in memory. -/
theorem Mem.stk {w : World} {t n : Nat} {s : TS} (h : Mem w t n s) (hp : 0 < s.stack.length) :
    ∃ gS cap, t + 10 ≤ gS ∧ s.stack.length ≤ cap ∧ Row w (t + 8) 24 1 (fun _ => .slice (some ⟨gS, 0, none⟩) s.stack.length cap) ∧
      w.ownsRow (t + 10) 3 1 (.slice (some ⟨gS, 0, none⟩) s.stack.length cap) s.stack.length (ints s.stack) ∧
      (∀ j x, s.stack[j]? = some x → w.cell? ⟨gS, j, none⟩ = some (.int .i64 (x : Nat))) := by
  obtain ⟨v, r, o⟩ := h.st
  rcases o.2 with ⟨_, h0⟩ | ⟨gS, cap, cur, rfl, hg, hh, hle, _⟩
  · omega
  · refine ⟨gS, cap, hg, hle, r, o, fun j x hx => ?_⟩
    rw [o.cellAt _ (by have := (List.getElem?_eq_some_iff.1 hx).1; omega)]
    simp [ints, hx]
    
/-! The plain steps of a round. -/
section
variable {g : List (List Nat)} {s : TS} {cs : List (Nat × Nat)} {p k u : Nat}
theorem step_enter (h : TInv g s) (hc : s.calls = cs ++ [(p, k)]) (hu : (sc g p)[k]? = some u) (hul : u < g.length) (hn : s.ord u = -1) :
    TInv g (TS.enter { s with calls := cs ++ [(p, k + 1)] } u) ∧ TS.meas g (TS.enter { s with calls := cs ++ [(p, k + 1)] } u) < s.meas g := by
  have hru : Reach g p u := Reach.one (List.mem_of_getElem? hu)
  have hps : p ∈ s.stack := (h.ca_mem p k (by rw [hc]; simp)).1
  have h1 := tinv_enter h hul hn (fun q hq => by
    refine Reach.trans (h.w1 q hq p hps ?_) hru
    obtain ⟨kq, hq⟩ := hq
    have hs := h.ca_sorted
    rw [hc] at hs hq
    rcases List.mem_append.1 hq with hq | hq
    · exact Int.le_of_lt ((List.pairwise_append.1 hs).2.2 _ hq (p, k) (by simp))
    · simp at hq; rw [hq.1]; exact Int.le_refl _)
  have hc1 : (s.enter u).calls = cs ++ (p, k) :: [(u, 0)] := by simp [TS.enter, hc]
  have hum : u ∈ s.unv := (h.unv_iff u).2 ⟨hul, hn⟩
  have e : TS.enter { s with calls := cs ++ [(p, k + 1)] } u = { s.enter u with calls := cs ++ (p, k + 1) :: [(u, 0)] } := by simp [TS.enter]
  have hpu : p ≠ u := fun e => by have := h.st_vis p hps; rw [e, hn] at this; omega
  rw [e]
  refine ⟨tinv_bump h1 hc1 hu (by simp [TS.enter, upd_same]) (fun _ => ?_), ?_⟩
  · simp only [TS.enter, upd_same, upd_ne _ _ hpu]
    have h3 := (h.i3 p ⟨k, by rw [hc]; simp⟩).1
    rcases h.ordb p with h4 | h4
    · have := h.st_vis p hps; omega
    · omega
  · rw [← meas_enter hum]
    exact meas_bump hc1 (List.getElem?_eq_some_iff.1 hu).1
theorem step_lower (h : TInv g s) (hc : s.calls = cs ++ [(p, k)]) (hu : (sc g p)[k]? = some u) (hv : s.ord u ≠ -1) (ho : s.on u = true) :
    TInv g { s with calls := cs ++ [(p, k + 1)], low := upd s.low p (min (s.low p) (s.ord u)) } ∧ TS.meas g { s with calls := cs ++ [(p, k + 1)], low := upd s.low p (min (s.low p) (s.ord u)) } < s.meas g := by
  have hru : Reach g p u := Reach.one (List.mem_of_getElem? hu)
  have hg : Gray s p := ⟨k, by rw [hc]; simp⟩
  have h1 := tinv_lower h hg ((h.on_iff u).1 ho) hru
  have hv0 : 0 ≤ s.ord u := by rcases h.ordb u with h4 | h4; exact absurd h4 hv; exact h4.2.1
  refine ⟨tinv_bump (s := { s with low := upd s.low p (min (s.low p) (s.ord u)) }) h1 hc hu hv0 (fun _ => ?_), ?_⟩
  · show upd s.low p (min (s.low p) (s.ord u)) p ≤ s.ord u
    rw [upd_same]; omega
  · exact meas_bump (s := { s with low := upd s.low p (min (s.low p) (s.ord u)) }) hc (List.getElem?_eq_some_iff.1 hu).1
theorem step_skip (h : TInv g s) (hc : s.calls = cs ++ [(p, k)]) (hu : (sc g p)[k]? = some u) (hv : s.ord u ≠ -1) (ho : s.on u = false) :
    TInv g { s with calls := cs ++ [(p, k + 1)] } ∧ TS.meas g { s with calls := cs ++ [(p, k + 1)] } < s.meas g := by
  have hv0 : 0 ≤ s.ord u := by rcases h.ordb u with h4 | h4; exact absurd h4 hv; exact h4.2.1
  refine ⟨tinv_bump h hc hu hv0 (fun hm => ?_), meas_bump hc (List.getElem?_eq_some_iff.1 hu).1⟩
  rw [(h.on_iff u).2 hm] at ho; cases ho
end
end Go.Proofs.Qxb6604039a
