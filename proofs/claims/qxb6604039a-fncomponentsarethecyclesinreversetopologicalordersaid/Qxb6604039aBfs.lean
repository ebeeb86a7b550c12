import Derived.Test.Qxb6604039aTarjan
namespace Go.Proofs.Qxb6604039a

/-- A path of one or more edges. -/
def RP (g : List (List Nat)) (s v : Nat) : Prop := ∃ m ∈ sc g s, Reach g m v
theorem RP.edge {g : List (List Nat)} {s v u : Nat} (h : RP g s v) (hu : u ∈ sc g v) : RP g s u := by
  obtain ⟨m, hm, hr⟩ := h
  exact ⟨m, hm, hr.trans (.one hu)⟩
theorem rp_of_ne {g : List (List Nat)} {i j : Nat} (h : j ≠ i) : RP g i j ↔ Reach g i j := by
  constructor
  · rintro ⟨m, hm, hr⟩; exact .step hm hr
  · intro hr
    cases hr with
    | refl => exact absurd rfl h
    | step he hr => exact ⟨_, he, hr⟩

/-- The walk from s: the queue so far. -/
structure BInv (g : List (List Nat)) (s : Nat) (q : List Nat) (seen : Nat → Bool) (unv : List Nat) : Prop where
  seen_iff : ∀ v, seen v = true ↔ v ∈ q
  rp : ∀ v ∈ q, RP g s v ∧ v < g.length
  nd : unv.Nodup
  unv_iff : ∀ v, v ∈ unv ↔ v < g.length ∧ seen v = false
  len : q.length + unv.length = g.length
theorem binv_start (g : List (List Nat)) (s : Nat) : BInv g s [] (fun _ => false) (List.range g.length) where
  seen_iff := fun v => by simp
  rp := fun v h => by cases h
  nd := List.nodup_range
  unv_iff := fun v => by simp
  len := by simp
theorem binv_add {g : List (List Nat)} {s : Nat} {q : List Nat} {seen : Nat → Bool} {unv : List Nat} (h : BInv g s q seen unv) {m : Nat} (hm : m < g.length) (hs : seen m = false) (hr : RP g s m) : BInv g s (q ++ [m]) (upd seen m true) (unv.erase m) where
  seen_iff := fun v => by
    by_cases e : v = m
    · subst e; simp [upd_same]
    · rw [upd_ne _ _ e, h.seen_iff]; simp [e]
  rp := fun v hv => by
    rcases List.mem_append.1 hv with hv | hv
    · exact h.rp v hv
    · rw [List.mem_singleton.1 hv]; exact ⟨hr, hm⟩
  nd := h.nd.erase m
  unv_iff := fun v => by
    rw [h.nd.mem_erase_iff, h.unv_iff]
    by_cases e : v = m
    · subst e; simp [upd_same]
    · rw [upd_ne _ _ e]; simp [e]
  len := by
    have hmem : m ∈ unv := (h.unv_iff m).2 ⟨hm, hs⟩
    have := List.length_pos_of_mem hmem
    have := h.len
    rw [List.length_erase_of_mem hmem, List.length_append]; simp only [List.length_cons, List.length_nil]; omega
theorem BInv.room {g : List (List Nat)} {s : Nat} {q : List Nat} {seen : Nat → Bool} {unv : List Nat} (h : BInv g s q seen unv) {m : Nat} (hm : m < g.length) (hs : seen m = false) : q.length < g.length := by
  have hmem : m ∈ unv := (h.unv_iff m).2 ⟨hm, hs⟩
  have := List.length_pos_of_mem hmem
  have := h.len
  omega
theorem binv_end {g : List (List Nat)} {s : Nat} {q : List Nat} {seen : Nat → Bool} {unv : List Nat} (h : BInv g s q seen unv) (h1 : ∀ u ∈ sc g s, u ∈ q) (h2 : ∀ v ∈ q, ∀ u ∈ sc g v, u ∈ q) (v : Nat) : seen v = true ↔ RP g s v := by
  rw [h.seen_iff]
  constructor
  · intro hv; exact (h.rp v hv).1
  · rintro ⟨m, hm, hr⟩
    exact hr.closed (P := fun v => v ∈ q) h2 (h1 m hm)
end Go.Proofs.Qxb6604039a
