namespace Go.Proofs.Qxb6604039a
/-- The successors of a node. -/
def sc (g : List (List Nat)) (v : Nat) : List Nat := (g[v]?).getD []
inductive Reach (g : List (List Nat)) : Nat → Nat → Prop
  | refl (v : Nat) : Reach g v v
  | step {v u x : Nat} : u ∈ sc g v → Reach g u x → Reach g v x
theorem Reach.trans {g : List (List Nat)} {v u x : Nat} (h : Reach g v u) (h2 : Reach g u x) : Reach g v x := by
  induction h with
  | refl => exact h2
  | step he _ ih => exact .step he (ih h2)
theorem Reach.one {g : List (List Nat)} {v u : Nat} (h : u ∈ sc g v) : Reach g v u := .step h (.refl _)
theorem Reach.closed {g : List (List Nat)} {P : Nat → Prop} (hP : ∀ v, P v → ∀ u ∈ sc g v, P u) {v u : Nat} (h : Reach g v u) (hv : P v) : P u := by
  induction h with
  | refl => exact hv
  | step he _ ih => exact ih (hP _ hv _ he)
def upd {α : Type} (f : Nat → α) (m : Nat) (x : α) : Nat → α := fun v => if v = m then x else f v
theorem upd_same {α : Type} (f : Nat → α) (m : Nat) (x : α) : upd f m x m = x := by simp [upd]
theorem upd_ne {α : Type} (f : Nat → α) {m v : Nat} (x : α) (h : v ≠ m) : upd f m x v = f v := by simp [upd, h]

structure TS where
  ord : Nat → Int
  low : Nat → Int
  comp : Nat → Int
  on : Nat → Bool
  calls : List (Nat × Nat)
  stack : List Nat
  vis : Nat
  cnt : Nat
  unv : List Nat

def Done (s : TS) (v : Nat) : Prop := 0 ≤ s.ord v ∧ v ∉ s.stack
def Gray (s : TS) (v : Nat) : Prop := ∃ k, (v, k) ∈ s.calls
def Mut (g : List (List Nat)) (v u : Nat) : Prop := Reach g v u ∧ Reach g u v

/-- What is said of the nodes whose component is known. -/
structure CInv (g : List (List Nat)) (D : Nat → Prop) (comp : Nat → Int) (cnt : Nat) : Prop where
  c0 : ∀ v, ¬ D v → comp v = -1
  c1 : ∀ v, D v → -1 ≤ comp v ∧ comp v < cnt
  c2 : ∀ v, D v → (0 ≤ comp v ↔ ∃ u, u ≠ v ∧ Mut g v u)
  c3 : ∀ v u, D v → D u → 0 ≤ comp v → 0 ≤ comp u → (comp v = comp u ↔ Mut g v u)
  c4 : ∀ c : Nat, c < cnt → ∃ v, D v ∧ comp v = c
  c5 : ∀ v u, D v → D u → 0 ≤ comp v → 0 ≤ comp u → Reach g v u → comp v ≠ comp u → comp u < comp v

structure TInv (g : List (List Nat)) (s : TS) : Prop where
  ordb : ∀ v, s.ord v = -1 ∨ (v < g.length ∧ 0 ≤ s.ord v ∧ s.ord v < s.vis)
  inj : ∀ v u, 0 ≤ s.ord v → s.ord v = s.ord u → v = u
  on_iff : ∀ v, s.on v = true ↔ v ∈ s.stack
  st_vis : ∀ v ∈ s.stack, 0 ≤ s.ord v
  st_sorted : s.stack.Pairwise (fun a b => s.ord a < s.ord b)
  ca_mem : ∀ p k, (p, k) ∈ s.calls → p ∈ s.stack ∧ k ≤ (sc g p).length
  ca_sorted : s.calls.Pairwise (fun a b => s.ord a.1 < s.ord b.1)
  unv_nd : s.unv.Nodup
  unv_iff : ∀ v, v ∈ s.unv ↔ v < g.length ∧ s.ord v = -1
  vis_eq : s.vis + s.unv.length = g.length
  cnt_le : s.cnt + s.stack.length + s.unv.length ≤ g.length
  ca_le : s.calls.length + s.unv.length ≤ g.length
  i1 : ∀ v, Done s v → ∀ u ∈ sc g v, Done s u
  i2b : ∀ v ∈ s.stack, ¬ Gray s v → ∀ u ∈ sc g v, 0 ≤ s.ord u
  i2g : ∀ p k, (p, k) ∈ s.calls → ∀ (j : Nat) u, j < k → (sc g p)[j]? = some u → 0 ≤ s.ord u
  w1 : ∀ p, Gray s p → ∀ v ∈ s.stack, s.ord p ≤ s.ord v → Reach g p v
  w2 : ∀ v ∈ s.stack, ¬ Gray s v → ∃ u ∈ s.stack, s.ord u < s.ord v ∧ Reach g v u
  i3 : ∀ p, Gray s p → s.low p ≤ s.ord p ∧ ∃ u ∈ s.stack, s.ord u = s.low p ∧ Reach g p u
  w3 : ∀ p k, (p, k) ∈ s.calls → ∀ v ∈ s.stack, s.ord p ≤ s.ord v → (∀ q, Gray s q → s.ord q ≤ s.ord p ∨ s.ord v < s.ord q) →
    ∀ (j : Nat) u, (v = p → j < k) → (sc g v)[j]? = some u → u ∈ s.stack → s.low p ≤ s.ord u
  cc : CInv g (Done s) s.comp s.cnt

/-- The start. -/
def TS.init (n : Nat) (low : Nat → Int) : TS := { ord := fun _ => -1, low, comp := fun _ => -1, on := fun _ => false, calls := [], stack := [], vis := 0, cnt := 0, unv := List.range n }
theorem tinv_init (g : List (List Nat)) (low : Nat → Int) : TInv g (TS.init g.length low) := by
  have hd : ∀ v, ¬ Done (TS.init g.length low) v := fun v h => by have := h.1; simp [TS.init] at this
  have hg : ∀ v, ¬ Gray (TS.init g.length low) v := fun v h => by obtain ⟨k, h⟩ := h; simp [TS.init] at h
  refine { ordb := fun v => .inl rfl, inj := fun v u h => by simp [TS.init] at h, on_iff := fun v => by simp [TS.init], st_vis := fun v h => by simp [TS.init] at h, st_sorted := by simp [TS.init], ca_mem := fun p k h => by simp [TS.init] at h, ca_sorted := by simp [TS.init], unv_nd := by simp [TS.init, List.nodup_range], unv_iff := fun v => by simp [TS.init], vis_eq := by simp [TS.init], cnt_le := by simp [TS.init], ca_le := by simp [TS.init], i1 := fun v h => absurd h (hd v), i2b := fun v h => by simp [TS.init] at h, i2g := fun p k h => by simp [TS.init] at h, w1 := fun p h => absurd h (hg p), w2 := fun v h => by simp [TS.init] at h, i3 := fun p h => absurd h (hg p), w3 := fun p k h => by simp [TS.init] at h, cc := ?_ }
  exact { c0 := fun v _ => rfl, c1 := fun v h => absurd h (hd v), c2 := fun v h => absurd h (hd v), c3 := fun v u h => absurd h (hd v), c4 := fun c h => by simp [TS.init] at h, c5 := fun v u h => absurd h (hd v) }

/-- A stack node reaches a frame's node of no greater order. -/
theorem TInv.to_gray {g : List (List Nat)} {s : TS} (h : TInv g s) : ∀ (n : Nat) v, v ∈ s.stack → s.ord v < n → ∃ q, Gray s q ∧ s.ord q ≤ s.ord v ∧ Reach g v q := by
  intro n
  induction n with
  | zero => intro v hv hn; have := h.st_vis v hv; omega
  | succ n ih =>
    intro v hv hn
    by_cases hg : Gray s v
    · exact ⟨v, hg, Int.le_refl _, .refl _⟩
    · obtain ⟨u, hu, hlt, hr⟩ := h.w2 v hv hg
      obtain ⟨q, hq, hle, hr2⟩ := ih u hu (by omega)
      exact ⟨q, hq, by omega, hr.trans hr2⟩
theorem TInv.gray_of {g : List (List Nat)} {s : TS} (h : TInv g s) {v : Nat} (hv : v ∈ s.stack) : ∃ q, Gray s q ∧ s.ord q ≤ s.ord v ∧ Reach g v q :=
  h.to_gray ((s.ord v).toNat + 1) v hv (by have := h.st_vis v hv; omega)
theorem TInv.stack_nil {g : List (List Nat)} {s : TS} (h : TInv g s) (hc : s.calls = []) : s.stack = [] := by
  cases hs : s.stack with
  | nil => rfl
  | cons a t =>
    obtain ⟨q, ⟨k, hq⟩, _⟩ := h.gray_of (v := a) (by rw [hs]; simp)
    rw [hc] at hq
    cases hq
theorem TInv.gray_stack {g : List (List Nat)} {s : TS} (h : TInv g s) {v : Nat} (hv : Gray s v) : v ∈ s.stack := by
  obtain ⟨k, hk⟩ := hv; exact (h.ca_mem _ _ hk).1
theorem TInv.done_lt {g : List (List Nat)} {s : TS} (h : TInv g s) {v : Nat} (hv : Done s v) : v < g.length := by
  rcases h.ordb v with h1 | h1
  · have := hv.1; omega
  · exact h1.1
theorem TInv.st_lt {g : List (List Nat)} {s : TS} (h : TInv g s) {v : Nat} (hv : v ∈ s.stack) : v < g.length := by
  rcases h.ordb v with h1 | h1
  · have := h.st_vis v hv; omega
  · exact h1.1

/-- A node is entered. -/
def TS.enter (s : TS) (m : Nat) : TS := { s with ord := upd s.ord m s.vis, low := upd s.low m s.vis, on := upd s.on m true, stack := s.stack ++ [m], calls := s.calls ++ [(m, 0)], vis := s.vis + 1, unv := s.unv.erase m }
theorem tinv_enter {g : List (List Nat)} {s : TS} (h : TInv g s) {m : Nat} (hm : m < g.length) (hu : s.ord m = -1) (hr : ∀ p, Gray s p → Reach g p m) : TInv g (s.enter m) := by
  have hms : m ∉ s.stack := fun hc => by have := h.st_vis m hc; omega
  have hmg : ∀ k, (m, k) ∉ s.calls := fun k hc => hms (h.ca_mem m k hc).1
  have hne : ∀ v ∈ s.stack, v ≠ m := fun v hv e => hms (e ▸ hv)
  have ho : ∀ v, v ≠ m → (s.enter m).ord v = s.ord v := fun v hv => upd_ne _ _ hv
  have hom : (s.enter m).ord m = s.vis := upd_same _ _ _
  have hl : ∀ v, v ≠ m → (s.enter m).low v = s.low v := fun v hv => upd_ne _ _ hv
  have hlm : (s.enter m).low m = s.vis := upd_same _ _ _
  have hst : ∀ v, v ∈ (s.enter m).stack ↔ v ∈ s.stack ∨ v = m := fun v => by simp [TS.enter]
  have hca : ∀ p k, (p, k) ∈ (s.enter m).calls ↔ (p, k) ∈ s.calls ∨ (p = m ∧ k = 0) := fun p k => by simp [TS.enter]
  have hgr : ∀ v, Gray (s.enter m) v ↔ Gray s v ∨ v = m := fun v => by
    constructor
    · rintro ⟨k, hk⟩
      rcases (hca v k).1 hk with h1 | h1
      · exact .inl ⟨k, h1⟩
      · exact .inr h1.1
    · rintro (⟨k, hk⟩ | rfl)
      · exact ⟨k, (hca v k).2 (.inl hk)⟩
      · exact ⟨0, (hca v 0).2 (.inr ⟨rfl, rfl⟩)⟩
  have hvis : ∀ v, s.ord v < s.vis := fun v => by rcases h.ordb v with h1 | h1 <;> omega
  have hsv : ∀ v ∈ s.stack, (s.enter m).ord v = s.ord v := fun v hv => ho v (hne v hv)
  have hgne : ∀ v, Gray s v → v ≠ m := fun v hv => hne v (h.gray_stack hv)
  have hd : ∀ v, Done (s.enter m) v ↔ Done s v := fun v => by
    unfold Done
    by_cases e : v = m
    · subst e
      constructor
      · intro hc; exact absurd ((hst v).2 (.inr rfl)) hc.2
      · intro hc; have := hc.1; omega
    · rw [ho v e, hst v]; simp [e]
  have hup : ∀ v, 0 ≤ s.ord v → 0 ≤ (s.enter m).ord v := fun v hv => by
    by_cases e : v = m
    · subst e; omega
    · rw [ho v e]; exact hv
  have hlen : (s.unv.erase m).length + 1 = s.unv.length := by
    have hmem : m ∈ s.unv := (h.unv_iff m).2 ⟨hm, hu⟩
    rw [List.length_erase_of_mem hmem]
    have := List.length_pos_of_mem hmem
    omega
  exact {
    ordb := fun v => by
      by_cases e : v = m
      · subst e; right; rw [hom]; exact ⟨hm, by omega, by show (s.vis : Int) < ((s.vis + 1 : Nat) : Int); omega⟩
      · rw [ho v e]
        rcases h.ordb v with h1 | h1
        · exact .inl h1
        · exact .inr ⟨h1.1, h1.2.1, by show s.ord v < ((s.vis + 1 : Nat) : Int); omega⟩
    inj := fun v u h1 h2 => by
      by_cases e : v = m <;> by_cases e2 : u = m
      · rw [e, e2]
      · subst e; rw [hom, ho u e2] at h2; have := hvis u; omega
      · subst e2; rw [hom, ho v e] at h2; have := hvis v; omega
      · rw [ho v e] at h1 h2; rw [ho u e2] at h2; exact h.inj v u h1 h2
    on_iff := fun v => by
      show upd s.on m true v = true ↔ _
      rw [hst]
      by_cases e : v = m
      · subst e; simp [upd_same]
      · rw [upd_ne _ _ e, h.on_iff]; simp [e]
    st_vis := fun v hv => by
      rcases (hst v).1 hv with h1 | h1
      · rw [hsv v h1]; exact h.st_vis v h1
      · subst h1; rw [hom]; omega
    st_sorted := by
      show (s.stack ++ [m]).Pairwise _
      rw [List.pairwise_append]
      refine ⟨h.st_sorted.imp_of_mem (fun {a b} ha hb hab => by rw [hsv a ha, hsv b hb]; exact hab), by simp, fun a ha b hb => ?_⟩
      have : b = m := by simpa using hb
      subst this
      rw [hsv a ha, hom]; exact hvis a
    ca_mem := fun p k hk => by
      rcases (hca p k).1 hk with h1 | h1
      · exact ⟨(hst p).2 (.inl (h.ca_mem p k h1).1), (h.ca_mem p k h1).2⟩
      · obtain ⟨rfl, rfl⟩ := h1; exact ⟨(hst p).2 (.inr rfl), Nat.zero_le _⟩
    ca_sorted := by
      show (s.calls ++ [(m, 0)]).Pairwise _
      rw [List.pairwise_append]
      refine ⟨h.ca_sorted.imp_of_mem (fun {a b} ha hb hab => by rw [hsv a.1 (h.ca_mem a.1 a.2 ha).1, hsv b.1 (h.ca_mem b.1 b.2 hb).1]; exact hab), by simp, fun a ha b hb => ?_⟩
      have : b = (m, 0) := by simpa using hb
      subst this
      rw [hsv a.1 (h.ca_mem a.1 a.2 ha).1, hom]; exact hvis _
    unv_nd := h.unv_nd.erase m
    unv_iff := fun v => by
      show v ∈ s.unv.erase m ↔ _
      rw [h.unv_nd.mem_erase_iff, h.unv_iff]
      by_cases e : v = m
      · subst e; rw [hom]; constructor
        · intro hc; exact absurd rfl hc.1
        · intro hc; omega
      · rw [ho v e]; simp [e]
    vis_eq := by
      show s.vis + 1 + (s.unv.erase m).length = _
      have := h.vis_eq; omega
    cnt_le := by
      show s.cnt + (s.stack ++ [m]).length + (s.unv.erase m).length ≤ _
      have := h.cnt_le; simp only [List.length_append, List.length_cons, List.length_nil]; omega
    ca_le := by
      show (s.calls ++ [(m, 0)]).length + (s.unv.erase m).length ≤ _
      have := h.ca_le; simp only [List.length_append, List.length_cons, List.length_nil]; omega
    i1 := fun v hv u hu' => (hd u).2 (h.i1 v ((hd v).1 hv) u hu')
    i2b := fun v hv hg u hu' => by
      have hg' : ¬ (Gray s v ∨ v = m) := fun hc => hg ((hgr v).2 hc)
      rcases (hst v).1 hv with h1 | h1
      · exact hup u (h.i2b v h1 (fun hc => hg' (.inl hc)) u hu')
      · exact absurd (.inr h1) hg'
    i2g := fun p k hk j u hj hu' => by
      rcases (hca p k).1 hk with h1 | h1
      · exact hup u (h.i2g p k h1 j u hj hu')
      · omega
    w1 := fun p hp v hv hle => by
      rcases (hgr p).1 hp with h1 | h1
      · rcases (hst v).1 hv with h2 | h2
        · rw [ho p (hgne p h1), hsv v h2] at hle; exact h.w1 p h1 v h2 hle
        · subst h2; exact hr p h1
      · subst h1
        rcases (hst v).1 hv with h2 | h2
        · rw [hom, hsv v h2] at hle; have := hvis v; omega
        · subst h2; exact .refl _
    w2 := fun v hv hg => by
      have hg' : ¬ (Gray s v ∨ v = m) := fun hc => hg ((hgr v).2 hc)
      rcases (hst v).1 hv with h1 | h1
      · obtain ⟨u, hu', hlt, hre⟩ := h.w2 v h1 (fun hc => hg' (.inl hc))
        exact ⟨u, (hst u).2 (.inl hu'), by rw [hsv u hu', hsv v h1]; exact hlt, hre⟩
      · exact absurd (.inr h1) hg'
    i3 := fun p hp => by
      rcases (hgr p).1 hp with h1 | h1
      · obtain ⟨h2, u, hu', he, hre⟩ := h.i3 p h1
        rw [hl p (hgne p h1), ho p (hgne p h1)]
        exact ⟨h2, u, (hst u).2 (.inl hu'), by rw [hsv u hu']; exact he, hre⟩
      · subst h1
        rw [hlm, hom]
        exact ⟨Int.le_refl _, p, (hst p).2 (.inr rfl), hom, .refl _⟩
    w3 := fun p k hk v hv hle hseg j u hj hu' hus => by
      rcases (hca p k).1 hk with h1 | h1
      · have hpg : Gray s p := ⟨k, h1⟩
        rw [hl p (hgne p hpg)]
        rcases (hst v).1 hv with h2 | h2
        · rcases (hst u).1 hus with h3 | h3
          · rw [hsv u h3]
            rw [ho p (hgne p hpg), hsv v h2] at hle
            refine h.w3 p k h1 v h2 hle (fun q hq => ?_) j u hj hu' h3
            have := hseg q ((hgr q).2 (.inl hq))
            rw [ho q (hgne q hq), ho p (hgne p hpg), hsv v h2] at this
            exact this
          · subst h3
            rw [hom]
            have h4 := (h.i3 p hpg).1
            have := hvis p
            omega
        · subst h2
          exfalso
          have := hseg v ((hgr v).2 (.inr rfl))
          rw [hom, ho p (hgne p hpg)] at this
          have := hvis p
          omega
      · obtain ⟨rfl, rfl⟩ := h1
        rcases (hst v).1 hv with h2 | h2
        · rw [hom, hsv v h2] at hle; have := hvis v; omega
        · exact absurd (hj h2) (by omega)
    cc := by
      have : Done (s.enter m) = Done s := funext fun v => propext (hd v)
      rw [this]; exact h.cc }

/-- A frame goes on to its next edge. -/
theorem tinv_bump {g : List (List Nat)} {s : TS} (h : TInv g s) {cs ds : List (Nat × Nat)} {p k u : Nat} (hc : s.calls = cs ++ (p, k) :: ds) (hu : (sc g p)[k]? = some u) (hv : 0 ≤ s.ord u) (hlo : u ∈ s.stack → s.low p ≤ s.ord u) : TInv g { s with calls := cs ++ (p, k + 1) :: ds } := by
  obtain ⟨s', hs'⟩ : ∃ s', s' = { s with calls := cs ++ (p, k + 1) :: ds } := ⟨_, rfl⟩
  rw [← hs']
  have e1 : s'.ord = s.ord := by rw [hs']
  have e2 : s'.low = s.low := by rw [hs']
  have e3 : s'.comp = s.comp := by rw [hs']
  have e4 : s'.on = s.on := by rw [hs']
  have e5 : s'.stack = s.stack := by rw [hs']
  have e6 : s'.vis = s.vis := by rw [hs']
  have e7 : s'.cnt = s.cnt := by rw [hs']
  have e8 : s'.unv = s.unv := by rw [hs']
  have e9 : s'.calls = cs ++ (p, k + 1) :: ds := by rw [hs']
  clear hs'
  have hpk : (p, k) ∈ s.calls := by rw [hc]; simp
  have hca : ∀ q j, (q, j) ∈ s'.calls → (q, j) ∈ s.calls ∨ (q = p ∧ j = k + 1) := fun q j hq => by
    rw [e9] at hq; rw [hc]
    simp only [List.mem_append, List.mem_cons, Prod.mk.injEq] at hq ⊢
    rcases hq with h1 | h1 | h1
    · exact .inl (.inl h1)
    · exact .inr h1
    · exact .inl (.inr (.inr h1))
  have hgr : ∀ v, Gray s' v ↔ Gray s v := fun v => by
    constructor
    · rintro ⟨j, hj⟩
      rcases hca v j hj with h1 | ⟨rfl, _⟩
      · exact ⟨j, h1⟩
      · exact ⟨k, hpk⟩
    · rintro ⟨j, hj⟩
      rw [hc] at hj
      simp only [List.mem_append, List.mem_cons, Prod.mk.injEq] at hj
      rcases hj with h1 | ⟨rfl, rfl⟩ | h1
      · exact ⟨j, by rw [e9]; simp [h1]⟩
      · exact ⟨j + 1, by rw [e9]; simp⟩
      · exact ⟨j, by rw [e9]; simp [h1]⟩
  have hd : ∀ v, Done s' v ↔ Done s v := fun v => by unfold Done; rw [e1, e5]
  have hklt : k < (sc g p).length := (List.getElem?_eq_some_iff.1 hu).1
  have hDe : Done s' = Done s := funext fun v => propext (hd v)
  exact {
    ordb := by rw [e1, e6]; exact h.ordb
    inj := by rw [e1]; exact h.inj
    on_iff := by rw [e4, e5]; exact h.on_iff
    st_vis := by rw [e1, e5]; exact h.st_vis
    st_sorted := by rw [e1, e5]; exact h.st_sorted
    ca_mem := fun q j hq => by
      rw [e5]
      rcases hca q j hq with h1 | ⟨rfl, rfl⟩
      · exact h.ca_mem q j h1
      · exact ⟨(h.ca_mem q k hpk).1, hklt⟩
    ca_sorted := by
      rw [e1, e9]
      have := h.ca_sorted
      rw [hc] at this
      rw [List.pairwise_append] at this ⊢
      obtain ⟨a1, a2, a3⟩ := this
      rw [List.pairwise_cons] at a2
      refine ⟨a1, List.pairwise_cons.2 ⟨fun b hb => a2.1 b hb, a2.2⟩, fun a ha b hb => ?_⟩
      rcases List.mem_cons.1 hb with rfl | hb
      · exact a3 a ha (p, k) (by simp)
      · exact a3 a ha b (by simp [hb])
    unv_nd := by rw [e8]; exact h.unv_nd
    unv_iff := by rw [e8, e1]; exact h.unv_iff
    vis_eq := by rw [e6, e8]; exact h.vis_eq
    cnt_le := by rw [e7, e5, e8]; exact h.cnt_le
    ca_le := by
      have := h.ca_le
      rw [e8, e9]; rw [hc] at this
      simp only [List.length_append, List.length_cons] at this ⊢; exact this
    i1 := by rw [hDe]; exact h.i1
    i2b := fun v hv' hg => by rw [e1]; rw [e5] at hv'; exact h.i2b v hv' (fun hc => hg ((hgr v).2 hc))
    i2g := fun q j hq i x hi hx => by
      rw [e1]
      rcases hca q j hq with h1 | ⟨rfl, rfl⟩
      · exact h.i2g q j h1 i x hi hx
      · by_cases e : i = k
        · subst e; rw [hu] at hx; rw [← Option.some.inj hx]; exact hv
        · exact h.i2g q k hpk i x (by omega) hx
    w1 := fun q hq v hv' hle => by rw [e5] at hv'; rw [e1] at hle; exact h.w1 q ((hgr q).1 hq) v hv' hle
    w2 := fun v hv' hg => by rw [e5] at hv' ⊢; rw [e1]; exact h.w2 v hv' (fun hc => hg ((hgr v).2 hc))
    i3 := fun q hq => by rw [e2, e1, e5]; exact h.i3 q ((hgr q).1 hq)
    w3 := fun q j hq v hv' hle hseg i x hi hx hxs => by
      rw [e5] at hv' hxs; rw [e1] at hle; rw [e2, e1]
      have hseg' : ∀ q', Gray s q' → s.ord q' ≤ s.ord q ∨ s.ord v < s.ord q' := fun q' hq' => by
        have := hseg q' ((hgr q').2 hq'); rw [e1] at this; exact this
      rcases hca q j hq with h1 | ⟨rfl, rfl⟩
      · exact h.w3 q j h1 v hv' hle hseg' i x hi hx hxs
      · by_cases e : v = q ∧ i = k
        · obtain ⟨rfl, rfl⟩ := e
          rw [hu] at hx
          obtain rfl : u = x := Option.some.inj hx
          exact hlo hxs
        · exact h.w3 q k hpk v hv' hle hseg' i x (fun hvq => by
            have := hi hvq
            have : i ≠ k := fun hik => e ⟨hvq, hik⟩
            omega) hx hxs
    cc := by rw [hDe, e3, e7]; exact h.cc }

/-- A frame's low goes down to a stack node that it reaches. -/
theorem tinv_lower {g : List (List Nat)} {s : TS} (h : TInv g s) {p u : Nat} (hp : Gray s p) (hu : u ∈ s.stack) (hr : Reach g p u) : TInv g { s with low := upd s.low p (min (s.low p) (s.ord u)) } := by
  obtain ⟨s', hs'⟩ : ∃ s' : TS, s' = { s with low := upd s.low p (min (s.low p) (s.ord u)) } := ⟨_, rfl⟩
  rw [← hs']
  have e1 : s'.ord = s.ord := by rw [hs']
  have e2 : s'.low = upd s.low p (min (s.low p) (s.ord u)) := by rw [hs']
  have e3 : s'.comp = s.comp := by rw [hs']
  have e4 : s'.on = s.on := by rw [hs']
  have e5 : s'.stack = s.stack := by rw [hs']
  have e6 : s'.vis = s.vis := by rw [hs']
  have e7 : s'.cnt = s.cnt := by rw [hs']
  have e8 : s'.unv = s.unv := by rw [hs']
  have e9 : s'.calls = s.calls := by rw [hs']
  clear hs'
  have hle : ∀ v, s'.low v ≤ s.low v := fun v => by
    rw [e2]
    by_cases e : v = p
    · subst e; rw [upd_same]; omega
    · rw [upd_ne _ _ e]; omega
  have hgr : ∀ v, Gray s' v ↔ Gray s v := fun v => by unfold Gray; rw [e9]
  have hDe : Done s' = Done s := funext fun v => by unfold Done; rw [e1, e5]
  exact {
    ordb := by rw [e1, e6]; exact h.ordb
    inj := by rw [e1]; exact h.inj
    on_iff := by rw [e4, e5]; exact h.on_iff
    st_vis := by rw [e1, e5]; exact h.st_vis
    st_sorted := by rw [e1, e5]; exact h.st_sorted
    ca_mem := by rw [e9, e5]; exact h.ca_mem
    ca_sorted := by rw [e1, e9]; exact h.ca_sorted
    unv_nd := by rw [e8]; exact h.unv_nd
    unv_iff := by rw [e8, e1]; exact h.unv_iff
    vis_eq := by rw [e6, e8]; exact h.vis_eq
    cnt_le := by rw [e7, e5, e8]; exact h.cnt_le
    ca_le := by rw [e8, e9]; exact h.ca_le
    i1 := by rw [hDe]; exact h.i1
    i2b := fun v hv' hg => by rw [e1]; rw [e5] at hv'; exact h.i2b v hv' (fun hc => hg ((hgr v).2 hc))
    i2g := by rw [e9, e1]; exact h.i2g
    w1 := fun q hq v hv' hle => by rw [e5] at hv'; rw [e1] at hle; exact h.w1 q ((hgr q).1 hq) v hv' hle
    w2 := fun v hv' hg => by rw [e5] at hv' ⊢; rw [e1]; exact h.w2 v hv' (fun hc => hg ((hgr v).2 hc))
    i3 := fun q hq => by
      obtain ⟨h1, x, hx, hxe, hxr⟩ := h.i3 q ((hgr q).1 hq)
      rw [e1, e5]
      refine ⟨Int.le_trans (hle q) h1, ?_⟩
      by_cases e : q = p
      · subst e
        rw [e2, upd_same]
        by_cases hc : s.low q ≤ s.ord u
        · exact ⟨x, hx, by rw [hxe]; omega, hxr⟩
        · exact ⟨u, hu, by omega, hr⟩
      · rw [e2, upd_ne _ _ e]; exact ⟨x, hx, hxe, hxr⟩
    w3 := fun q j hq v hv' hle' hseg i x hi hx hxs => by
      rw [e9] at hq; rw [e5] at hv' hxs; rw [e1] at hle' ⊢
      exact Int.le_trans (hle q) (h.w3 q j hq v hv' hle' (fun q' hq' => by have := hseg q' ((hgr q').2 hq'); rw [e1] at this; exact this) i x hi hx hxs)
    cc := by rw [hDe, e3, e7]; exact h.cc }

/-- A frame ends, its node stays on the stack. -/
theorem tinv_pop {g : List (List Nat)} {s : TS} (h : TInv g s) {cs : List (Nat × Nat)} {m k : Nat} (hc : s.calls = cs ++ [(m, k)]) (hk : (sc g m).length ≤ k) (hlt : s.low m ≠ s.ord m) (low' : Nat → Int)
    (h1 : ∀ q kq, (q, kq) ∈ cs → (low' q = s.low q ∨ low' q = s.low m) ∧ low' q ≤ s.low q) (h2 : ∀ q kq cs', cs = cs' ++ [(q, kq)] → low' q ≤ s.low m) :
    TInv g { s with calls := cs, low := low' } := by
  obtain ⟨s', hs'⟩ : ∃ s' : TS, s' = { s with calls := cs, low := low' } := ⟨_, rfl⟩
  rw [← hs']
  have e1 : s'.ord = s.ord := by rw [hs']
  have e2 : s'.low = low' := by rw [hs']
  have e3 : s'.comp = s.comp := by rw [hs']
  have e4 : s'.on = s.on := by rw [hs']
  have e5 : s'.stack = s.stack := by rw [hs']
  have e6 : s'.vis = s.vis := by rw [hs']
  have e7 : s'.cnt = s.cnt := by rw [hs']
  have e8 : s'.unv = s.unv := by rw [hs']
  have e9 : s'.calls = cs := by rw [hs']
  clear hs'
  have hmk : (m, k) ∈ s.calls := by rw [hc]; simp
  have hmg : Gray s m := ⟨k, hmk⟩
  have hms := h.gray_stack hmg
  have hsub : ∀ q j, (q, j) ∈ cs → (q, j) ∈ s.calls := fun q j hq => by rw [hc]; simp [hq]
  have hsp : ∀ q j, (q, j) ∈ s.calls → (q, j) ∈ cs ∨ (q = m ∧ j = k) := fun q j hq => by rw [hc] at hq; simpa using hq
  have hso : ∀ q j, (q, j) ∈ cs → s.ord q < s.ord m := fun q j hq => by
    have := h.ca_sorted
    rw [hc, List.pairwise_append] at this
    exact this.2.2 (q, j) hq (m, k) (by simp)
  have hgs : ∀ v, Gray s' v → Gray s v := fun v => by
    rintro ⟨j, hj⟩; rw [e9] at hj; exact ⟨j, hsub v j hj⟩
  have hgo : ∀ v, Gray s' v → s.ord v < s.ord m := fun v => by
    rintro ⟨j, hj⟩; rw [e9] at hj; exact hso v j hj
  have hsg : ∀ v, Gray s v → Gray s' v ∨ v = m := fun v => by
    rintro ⟨j, hj⟩
    rcases hsp v j hj with h3 | h3
    · exact .inl ⟨j, by rw [e9]; exact h3⟩
    · exact .inr h3.1
  have hDe : Done s' = Done s := funext fun v => by unfold Done; rw [e1, e5]
  obtain ⟨hlo, um, hum, hume, humr⟩ := h.i3 m hmg
  exact {
    ordb := by rw [e1, e6]; exact h.ordb
    inj := by rw [e1]; exact h.inj
    on_iff := by rw [e4, e5]; exact h.on_iff
    st_vis := by rw [e1, e5]; exact h.st_vis
    st_sorted := by rw [e1, e5]; exact h.st_sorted
    ca_mem := fun q j hq => by rw [e9] at hq; rw [e5]; exact h.ca_mem q j (hsub q j hq)
    ca_sorted := by
      have := h.ca_sorted
      rw [hc, List.pairwise_append] at this
      rw [e1, e9]; exact this.1
    unv_nd := by rw [e8]; exact h.unv_nd
    unv_iff := by rw [e8, e1]; exact h.unv_iff
    vis_eq := by rw [e6, e8]; exact h.vis_eq
    cnt_le := by rw [e7, e5, e8]; exact h.cnt_le
    ca_le := by
      have := h.ca_le
      rw [hc] at this
      rw [e8, e9]
      simp only [List.length_append, List.length_cons, List.length_nil] at this; omega
    i1 := by rw [hDe]; exact h.i1
    i2b := fun v hv hg u hu => by
      rw [e1]; rw [e5] at hv
      by_cases e : v = m
      · subst e
        obtain ⟨j, hj⟩ := List.mem_iff_getElem?.1 hu
        exact h.i2g v k hmk j u (Nat.lt_of_lt_of_le (List.getElem?_eq_some_iff.1 hj).1 hk) hj
      · exact h.i2b v hv (fun hg' => by rcases hsg v hg' with h3 | h3 <;> contradiction) u hu
    i2g := fun q j hq => by rw [e9] at hq; rw [e1]; exact h.i2g q j (hsub q j hq)
    w1 := fun q hq v hv hle => by rw [e5] at hv; rw [e1] at hle; exact h.w1 q (hgs q hq) v hv hle
    w2 := fun v hv hg => by
      rw [e5] at hv ⊢; rw [e1]
      by_cases e : v = m
      · subst e
        exact ⟨um, hum, by omega, humr⟩
      · exact h.w2 v hv (fun hg' => by rcases hsg v hg' with h3 | h3 <;> contradiction)
    i3 := fun q hq => by
      obtain ⟨j, hj⟩ := id hq
      rw [e9] at hj
      obtain ⟨h4, h5⟩ := h1 q j hj
      obtain ⟨h6, x, hx, hxe, hxr⟩ := h.i3 q (hgs q hq)
      rw [e2, e1, e5]
      refine ⟨Int.le_trans h5 h6, ?_⟩
      rcases h4 with h4 | h4
      · exact ⟨x, hx, by rw [h4]; exact hxe, hxr⟩
      · exact ⟨um, hum, by rw [h4]; exact hume, (h.w1 q (hgs q hq) m hms (Int.le_of_lt (hgo q hq))).trans humr⟩
    w3 := fun q j hq v hv hle hseg i x hi hx hxs => by
      rw [e9] at hq; rw [e5] at hv hxs; rw [e1] at hle ⊢; rw [e2]
      have hseg' : ∀ q', Gray s' q' → s.ord q' ≤ s.ord q ∨ s.ord v < s.ord q' := fun q' hq' => by
        have := hseg q' hq'; rw [e1] at this; exact this
      by_cases hvm : s.ord v < s.ord m
      · refine Int.le_trans (h1 q j hq).2 (h.w3 q j (hsub q j hq) v hv hle (fun q' hq' => ?_) i x hi hx hxs)
        rcases hsg q' hq' with h3 | rfl
        · exact hseg' q' h3
        · exact .inr hvm
      · have hlast : ∃ cs', cs = cs' ++ [(q, j)] := by
          rcases List.eq_nil_or_concat cs with h3 | ⟨cs', ⟨q2, k2⟩, h3⟩
          · rw [h3] at hq; cases hq
          · have hq2 : (q2, k2) ∈ cs := by rw [h3]; simp
            have h4 : s.ord q2 ≤ s.ord q := by
              have h5 := hso q2 k2 hq2
              rcases hseg' q2 ⟨k2, by rw [e9]; exact hq2⟩ with h6 | h6 <;> omega
            have hs2 := h.ca_sorted
            rw [hc, List.pairwise_append] at hs2
            have hs3 := hs2.1
            rw [h3] at hq hs3
            simp only [List.concat_eq_append] at hq hs3 h3
            rw [List.pairwise_append] at hs3
            rcases List.mem_append.1 hq with h7 | h7
            · have := hs3.2.2 (q, j) h7 (q2, k2) (by simp)
              simp only at this
              omega
            · have h8 : (q, j) = (q2, k2) := by simpa using h7
              exact ⟨cs', by rw [h8]; exact h3⟩
        obtain ⟨cs', hcs'⟩ := hlast
        refine Int.le_trans (h2 q j cs' hcs') (h.w3 m k hmk v hv (by omega) (fun q' hq' => ?_) i x (fun hvm' => ?_) hx hxs)
        · rcases hsg q' hq' with h3 | rfl
          · exact .inl (Int.le_of_lt (hgo q' h3))
          · exact .inl (Int.le_refl _)
        · subst hvm'
          exact Nat.lt_of_lt_of_le (List.getElem?_eq_some_iff.1 hx).1 hk
    cc := by rw [hDe, e3, e7]; exact h.cc }

/-- A component is taken off the stack. -/
def TS.take (s : TS) (cs : List (Nat × Nat)) (A B : List Nat) (m : Nat) : TS :=
  { s with calls := cs, stack := A, on := fun v => if v ∈ m :: B then false else s.on v, comp := fun v => if v ∈ m :: B ∧ B ≠ [] then (s.cnt : Int) else s.comp v, cnt := if B = [] then s.cnt else s.cnt + 1 }
theorem tinv_take {g : List (List Nat)} {s : TS} (h : TInv g s) {cs : List (Nat × Nat)} {A B : List Nat} {m k : Nat} (hc : s.calls = cs ++ [(m, k)]) (hk : (sc g m).length ≤ k) (hlow : s.low m = s.ord m) (hst : s.stack = A ++ m :: B) :
    TInv g (s.take cs A B m) := by
  have hmk : (m, k) ∈ s.calls := by rw [hc]; simp
  have hmg : Gray s m := ⟨k, hmk⟩
  have hms := h.gray_stack hmg
  have hsub : ∀ q j, (q, j) ∈ cs → (q, j) ∈ s.calls := fun q j hq => by rw [hc]; simp [hq]
  have hsp : ∀ q j, (q, j) ∈ s.calls → (q, j) ∈ cs ∨ (q = m ∧ j = k) := fun q j hq => by rw [hc] at hq; simpa using hq
  have hso : ∀ q j, (q, j) ∈ cs → s.ord q < s.ord m := fun q j hq => by
    have := h.ca_sorted
    rw [hc, List.pairwise_append] at this
    exact this.2.2 (q, j) hq (m, k) (by simp)
  have hgle : ∀ q, Gray s q → s.ord q ≤ s.ord m := fun q => by
    rintro ⟨j, hj⟩
    rcases hsp q j hj with h3 | ⟨rfl, _⟩
    · exact Int.le_of_lt (hso q j h3)
    · exact Int.le_refl _
  have hsorted := h.st_sorted
  rw [hst, List.pairwise_append, List.pairwise_cons] at hsorted
  obtain ⟨hsA, ⟨hmB, hsB⟩, hAB⟩ := hsorted
  have hA : ∀ v ∈ A, s.ord v < s.ord m := fun v hv => hAB v hv m (by simp)
  have hS : ∀ v, v ∈ m :: B → s.ord m ≤ s.ord v := fun v hv => by
    rcases List.mem_cons.1 hv with rfl | hv
    · exact Int.le_refl _
    · exact Int.le_of_lt (hmB v hv)
  have hSs : ∀ v, v ∈ m :: B → v ∈ s.stack := fun v hv => by rw [hst]; exact List.mem_append.2 (.inr hv)
  have hAs : ∀ v, v ∈ A → v ∈ s.stack := fun v hv => by rw [hst]; exact List.mem_append.2 (.inl hv)
  have hss : ∀ v, v ∈ s.stack → v ∈ A ∨ v ∈ m :: B := fun v hv => by rw [hst] at hv; exact List.mem_append.1 hv
  have hAS : ∀ v, v ∈ A → v ∉ m :: B := fun v hv hv2 => by have := hA v hv; have := hS v hv2; omega
  have hgrS : ∀ v, v ∈ B → ¬ Gray s v := fun v hv hg => by have := hgle v hg; have := hmB v hv; omega
  -- the component
  have hmut1 : ∀ v, v ∈ m :: B → Reach g m v := fun v hv => h.w1 m hmg v (hSs v hv) (hS v hv)
  have hmut2 : ∀ v, v ∈ m :: B → Reach g v m := fun v hv => by
    obtain ⟨q, hq, hle, hr⟩ := h.gray_of (hSs v hv)
    exact hr.trans (h.w1 q hq m hms (hgle q hq))
  have hclo : ∀ v, v ∈ m :: B → ∀ u ∈ sc g v, Done s u ∨ u ∈ m :: B := fun v hv u hu => by
    obtain ⟨j, hj⟩ := List.mem_iff_getElem?.1 hu
    have hvis : 0 ≤ s.ord u := by
      rcases List.mem_cons.1 hv with rfl | hv'
      · exact h.i2g v k hmk j u (Nat.lt_of_lt_of_le (List.getElem?_eq_some_iff.1 hj).1 hk) hj
      · exact h.i2b v (hSs v hv) (hgrS v hv') u hu
    by_cases hus : u ∈ s.stack
    · have := h.w3 m k hmk v (hSs v hv) (hS v hv) (fun q hq => .inl (hgle q hq)) j u (fun e => by subst e; exact Nat.lt_of_lt_of_le (List.getElem?_eq_some_iff.1 hj).1 hk) hj hus
      rcases hss u hus with h3 | h3
      · have := hA u h3; omega
      · exact .inr h3
    · exact .inl ⟨hvis, hus⟩
  have hd : ∀ v, Done (s.take cs A B m) v ↔ Done s v ∨ v ∈ m :: B := fun v => by
    constructor
    · intro hv
      have hv1 : 0 ≤ s.ord v := hv.1
      have hv2 : v ∉ A := hv.2
      by_cases hvs : v ∈ s.stack
      · rcases hss v hvs with h3 | h3
        · exact absurd h3 hv2
        · exact .inr h3
      · exact .inl ⟨hv1, hvs⟩
    · rintro (hv | hv)
      · exact ⟨hv.1, fun hv2 => hv.2 (hAs v hv2)⟩
      · exact ⟨h.st_vis v (hSs v hv), fun hv2 => hAS v hv2 hv⟩
  have hnD : ∀ v, v ∈ m :: B → ¬ Done s v := fun v hv hD => hD.2 (hSs v hv)
  have hclD : ∀ {v u : Nat}, Reach g v u → Done s v → Done s u := fun hr hv => hr.closed (P := Done s) h.i1 hv
  have hclD' : ∀ v, (Done s v ∨ v ∈ m :: B) → ∀ u ∈ sc g v, (Done s u ∨ u ∈ m :: B) := fun v hv u hu => by
    rcases hv with hv | hv
    · exact .inl (h.i1 v hv u hu)
    · exact hclo v hv u hu
  have hclR : ∀ {v u : Nat}, Reach g v u → v ∈ m :: B → Done s u ∨ u ∈ m :: B := fun hr hv => hr.closed (P := fun v => Done s v ∨ v ∈ m :: B) hclD' (.inr hv)
  have hmutS : ∀ v u, v ∈ m :: B → (Mut g v u ↔ u ∈ m :: B) := fun v u hv => by
    constructor
    · rintro ⟨r1, r2⟩
      rcases hclR r1 hv with h3 | h3
      · exact absurd (hclD r2 h3) (hnD v hv)
      · exact h3
    · intro hu
      exact ⟨(hmut2 v hv).trans (hmut1 u hu), (hmut2 u hu).trans (hmut1 v hv)⟩
  have hmsym : ∀ v u, Mut g v u → Mut g u v := fun v u h => ⟨h.2, h.1⟩
  have hgs : ∀ v, Gray (s.take cs A B m) v → Gray s v := fun v => by
    rintro ⟨j, hj⟩; exact ⟨j, hsub v j hj⟩
  have hgo : ∀ v, Gray (s.take cs A B m) v → s.ord v < s.ord m := fun v => by
    rintro ⟨j, hj⟩; exact hso v j hj
  have hsg : ∀ v, Gray s v → Gray (s.take cs A B m) v ∨ v = m := fun v => by
    rintro ⟨j, hj⟩
    rcases hsp v j hj with h3 | h3
    · exact .inl ⟨j, h3⟩
    · exact .inr h3.1
  have hmA : m ∉ A := fun hm => by have := hA m hm; omega
  have hcA : ∀ v, v ∈ m :: B → B ≠ [] → (s.take cs A B m).comp v = s.cnt := fun v hv hB => by
    show (if v ∈ m :: B ∧ B ≠ [] then (s.cnt : Int) else s.comp v) = _
    rw [if_pos ⟨hv, hB⟩]
  have hcB : ∀ v, v ∉ m :: B → (s.take cs A B m).comp v = s.comp v := fun v hv => by
    show (if v ∈ m :: B ∧ B ≠ [] then (s.cnt : Int) else s.comp v) = _
    rw [if_neg (fun hc => hv hc.1)]
  have hcE : B = [] → (s.take cs A B m).comp = s.comp := fun hB => funext fun v => by
    show (if v ∈ m :: B ∧ B ≠ [] then (s.cnt : Int) else s.comp v) = _
    rw [if_neg (fun hc => hc.2 hB)]
  have hcm : ∀ v, v ∈ m :: B → s.comp v = -1 := fun v hv => h.cc.c0 v (hnD v hv)
  exact {
    ordb := h.ordb
    inj := h.inj
    on_iff := fun v => by
      show (if v ∈ m :: B then false else s.on v) = true ↔ v ∈ A
      by_cases hv : v ∈ m :: B
      · rw [if_pos hv]; constructor
        · intro hc; cases hc
        · intro hc; exact absurd hv (hAS v hc)
      · rw [if_neg hv, h.on_iff]
        constructor
        · intro hs; rcases hss v hs with h3 | h3
          · exact h3
          · exact absurd h3 hv
        · exact hAs v
    st_vis := fun v hv => h.st_vis v (hAs v hv)
    st_sorted := hsA
    ca_mem := fun q j hq => by
      have h3 := h.ca_mem q j (hsub q j hq)
      refine ⟨?_, h3.2⟩
      rcases hss q h3.1 with h4 | h4
      · exact h4
      · have := hS q h4; have := hso q j hq; omega
    ca_sorted := by
      have := h.ca_sorted
      rw [hc, List.pairwise_append] at this
      exact this.1
    unv_nd := h.unv_nd
    unv_iff := h.unv_iff
    vis_eq := h.vis_eq
    cnt_le := by
      have := h.cnt_le
      rw [hst] at this
      simp only [List.length_append, List.length_cons] at this
      show (if B = [] then s.cnt else s.cnt + 1) + A.length + s.unv.length ≤ _
      split <;> omega
    ca_le := by
      have := h.ca_le
      rw [hc] at this
      simp only [List.length_append, List.length_cons, List.length_nil] at this
      show cs.length + s.unv.length ≤ _
      omega
    i1 := fun v hv u hu => (hd u).2 (hclD' v ((hd v).1 hv) u hu)
    i2b := fun v hv hg u hu => h.i2b v (hAs v hv) (fun hg' => by
      rcases hsg v hg' with h3 | h3
      · exact hg h3
      · exact hmA (h3 ▸ hv)) u hu
    i2g := fun q j hq => h.i2g q j (hsub q j hq)
    w1 := fun q hq v hv hle => h.w1 q (hgs q hq) v (hAs v hv) hle
    w2 := fun v hv hg => by
      obtain ⟨u, hu, hlt, hr⟩ := h.w2 v (hAs v hv) (fun hg' => by
        rcases hsg v hg' with h3 | h3
        · exact hg h3
        · exact hmA (h3 ▸ hv))
      refine ⟨u, ?_, hlt, hr⟩
      rcases hss u hu with h4 | h4
      · exact h4
      · have := hS u h4; have := hA v hv; omega
    i3 := fun q hq => by
      obtain ⟨h3, u, hu, hue, hr⟩ := h.i3 q (hgs q hq)
      refine ⟨h3, u, ?_, hue, hr⟩
      rcases hss u hu with h4 | h4
      · exact h4
      · have := hS u h4; have := hgo q hq; omega
    w3 := fun q j hq v hv hle hseg i x hi hx hxs => by
      refine h.w3 q j (hsub q j hq) v (hAs v hv) hle (fun q' hq' => ?_) i x hi hx (hAs x hxs)
      rcases hsg q' hq' with h3 | rfl
      · exact hseg q' h3
      · exact .inr (hA v hv)
    cc := by
      rw [show Done (s.take cs A B m) = fun v => Done s v ∨ v ∈ m :: B from funext fun v => propext (hd v)]
      have hcc := h.cc
      by_cases hB : B = []
      · rw [hcE hB, show (s.take cs A B m).cnt = s.cnt from if_pos hB]
        have hx : ∀ v, v ∈ m :: B → ¬ 0 ≤ s.comp v := fun v hv => by rw [hcm v hv]; omega
        exact {
          c0 := fun v hv => hcc.c0 v (fun hD => hv (.inl hD))
          c1 := fun v hv => by
            rcases hv with hv | hv
            · exact hcc.c1 v hv
            · rw [hcm v hv]; omega
          c2 := fun v hv => by
            rcases hv with hv | hv
            · exact hcc.c2 v hv
            · constructor
              · intro hc; exact absurd hc (hx v hv)
              · rintro ⟨u, hne, hmu⟩
                have hu := (hmutS v u hv).1 hmu
                rw [hB] at hu hv
                exact absurd (by rw [List.mem_singleton.1 hu, List.mem_singleton.1 hv]) hne
          c3 := fun v u hv hu h3 h4 => by
            rcases hv with hv | hv
            · rcases hu with hu | hu
              · exact hcc.c3 v u hv hu h3 h4
              · exact absurd h4 (hx u hu)
            · exact absurd h3 (hx v hv)
          c4 := fun c hc' => by
            obtain ⟨v, hv, he⟩ := hcc.c4 c hc'
            exact ⟨v, .inl hv, he⟩
          c5 := fun v u hv hu h3 h4 => by
            rcases hv with hv | hv
            · rcases hu with hu | hu
              · exact hcc.c5 v u hv hu h3 h4
              · exact absurd h4 (hx u hu)
            · exact absurd h3 (hx v hv) }
      · rw [show (s.take cs A B m).cnt = s.cnt + 1 from if_neg hB]
        have hDn : ∀ v, Done s v → v ∉ m :: B := fun v hv hv2 => hnD v hv2 hv
        exact {
          c0 := fun v hv => by rw [hcB v (fun hc => hv (.inr hc))]; exact hcc.c0 v (fun hD => hv (.inl hD))
          c1 := fun v hv => by
            rcases hv with hv | hv
            · rw [hcB v (hDn v hv)]; have := hcc.c1 v hv; omega
            · rw [hcA v hv hB]; omega
          c2 := fun v hv => by
            rcases hv with hv | hv
            · rw [hcB v (hDn v hv)]; exact hcc.c2 v hv
            · rw [hcA v hv hB]
              refine ⟨fun _ => ?_, fun _ => by omega⟩
              rcases List.mem_cons.1 hv with rfl | hv'
              · cases hBB : B with
                | nil => exact absurd hBB hB
                | cons b t =>
                  have hb : b ∈ B := by rw [hBB]; simp
                  refine ⟨b, fun e => ?_, (hmutS v b hv).2 (List.mem_cons_of_mem _ hb)⟩
                  have := hmB b hb
                  rw [e] at this; omega
              · refine ⟨m, fun e => ?_, (hmutS v m hv).2 (by simp)⟩
                have := hmB v hv'
                rw [e] at this; omega
          c3 := fun v u hv hu h3 h4 => by
            rcases hv with hv | hv
            · rw [hcB v (hDn v hv)] at h3 ⊢
              rcases hu with hu | hu
              · rw [hcB u (hDn u hu)] at h4 ⊢
                exact hcc.c3 v u hv hu h3 h4
              · rw [hcA u hu hB]
                constructor
                · intro he; have := hcc.c1 v hv; omega
                · intro hmu; exact absurd hv (hnD v ((hmutS u v hu).1 (hmsym v u hmu)))
            · rw [hcA v hv hB]
              rcases hu with hu | hu
              · rw [hcB u (hDn u hu)]
                constructor
                · intro he; have := hcc.c1 u hu; omega
                · intro hmu; exact absurd hu (hnD u ((hmutS v u hv).1 hmu))
              · rw [hcA u hu hB]
                exact ⟨fun _ => (hmutS v u hv).2 hu, fun _ => rfl⟩
          c4 := fun c hc' => by
            rcases Nat.lt_or_ge c s.cnt with h3 | h3
            · obtain ⟨v, hv, he⟩ := hcc.c4 c h3
              exact ⟨v, .inl hv, by rw [hcB v (hDn v hv)]; exact he⟩
            · obtain rfl : c = s.cnt := by omega
              exact ⟨m, .inr (by simp), hcA m (by simp) hB⟩
          c5 := fun v u hv hu h3 h4 hr hne => by
            rcases hv with hv | hv
            · have hu' := hclD hr hv
              rw [hcB v (hDn v hv)] at h3 hne ⊢
              rw [hcB u (hDn u hu')] at h4 hne ⊢
              exact hcc.c5 v u hv hu' h3 h4 hr hne
            · rw [hcA v hv hB] at hne ⊢
              rcases hu with hu | hu
              · rw [hcB u (hDn u hu)]; exact (hcc.c1 u hu).2
              · rw [hcA u hu hB] at hne; exact absurd rfl hne } }

/-- How many rounds at most are to come. -/
def TS.meas (g : List (List Nat)) (s : TS) : Nat := (s.unv.map fun v => (sc g v).length + 1).sum + (s.calls.map fun c => (sc g c.1).length - c.2 + 1).sum
theorem sum_erase (f : Nat → Nat) : ∀ (l : List Nat) (m : Nat), m ∈ l → ((l.erase m).map f).sum + f m = (l.map f).sum
  | [], m, h => by cases h
  | a :: l, m, h => by
    by_cases e : a = m
    · subst e; simp; omega
    · have hm : m ∈ l := by
        rcases List.mem_cons.1 h with h | h
        · exact absurd h.symm e
        · exact h
      rw [List.erase_cons_tail (by simpa using e)]
      have := sum_erase f l m hm
      simp only [List.map_cons, List.sum_cons]; omega
theorem meas_bump {g : List (List Nat)} {s : TS} {cs ds : List (Nat × Nat)} {p k : Nat} (hc : s.calls = cs ++ (p, k) :: ds) (hk : k < (sc g p).length) : TS.meas g { s with calls := cs ++ (p, k + 1) :: ds } < s.meas g := by
  unfold TS.meas
  rw [hc]
  simp only [List.map_append, List.map_cons, List.sum_append, List.sum_cons]
  omega
theorem meas_enter {g : List (List Nat)} {s : TS} {m : Nat} (hm : m ∈ s.unv) : TS.meas g (s.enter m) = s.meas g := by
  have := sum_erase (fun v => (sc g v).length + 1) s.unv m hm
  unfold TS.meas TS.enter
  simp only [List.map_append, List.map_cons, List.map_nil, List.sum_append, List.sum_cons, List.sum_nil] at this ⊢
  omega
theorem meas_pop {g : List (List Nat)} {s s' : TS} {cs : List (Nat × Nat)} {m k : Nat} (hc : s.calls = cs ++ [(m, k)]) (h1 : s'.calls = cs) (h2 : s'.unv = s.unv) : TS.meas g s' < s.meas g := by
  unfold TS.meas
  rw [hc, h1, h2]
  simp only [List.map_append, List.map_cons, List.map_nil, List.sum_append, List.sum_cons, List.sum_nil]
  omega
/-- The end: every node is done. -/
theorem tinv_end {g : List (List Nat)} {s : TS} (h : TInv g s) (hc : s.calls = []) (hv : ∀ v, v < g.length → 0 ≤ s.ord v) : CInv g (fun v => v < g.length) s.comp s.cnt := by
  have hs := h.stack_nil hc
  have : Done s = fun v => v < g.length := funext fun v => propext ⟨fun hd => h.done_lt hd, fun hl => ⟨hv v hl, by rw [hs]; simp⟩⟩
  rw [← this]; exact h.cc
end Go.Proofs.Qxb6604039a
