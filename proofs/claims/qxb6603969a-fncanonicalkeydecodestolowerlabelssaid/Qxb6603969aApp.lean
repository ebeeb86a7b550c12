import Derived.Test.Qxb6603969aBase
import Derived.Maps.AppendAt
namespace Go.Proofs.Qxb6603969a
open Go.RowKit

theorem own_below {wr wx : World} {b : Nat} {e : TypeId} {v : Value} {n : Nat} {xs : List Value} (h : wr.ownsRow b e 1 v n xs) (hb : Below wr.heap.size wr wx) : wx.ownsRow b e 1 v n xs :=
  h.kept (row := none) ⟨hb.os, hb.tape, hb.output, hb.size, fun k hk _ => hb.block k hk⟩ (by cases v.ownBlock <;> simp)

/-- A slice that came in full (no spare room: len = cap = n, the numbers xs), onto which ys have been appended since the world was W: nothing that was in W has turned. -/
structure App (W : World) (ao : Option Addr) (n : Nat) (xs : List Int) (w : World) (v : Value) (ys : List Int) : Prop where
  below : Below W.heap.size W w
  val : (v = .slice ao n n ∧ ys = []) ∨ (w.ownsRow W.heap.size 5 1 v (n + ys.length) ((xs ++ ys).map (Value.int .u8)))

theorem App.start {W : World} {ao : Option Addr} {n : Nat} {xs : List Int} : App W ao n xs W (.slice ao n n) [] := ⟨Below.refl _ _, .inl ⟨rfl, rfl⟩⟩
theorem App.step {W : World} {ao : Option Addr} {n : Nat} {xs : List Int} {w w' : World} {v : Value} {ys : List Int} (h : App W ao n xs w v ys) (hb : Below w.heap.size w w') : App W ao n xs w' v ys :=
  ⟨h.below.trans (hb.mono h.below.size), h.val.imp id fun h => own_below h hb⟩
theorem App.alloc {W : World} {ao : Option Addr} {n : Nat} {xs : List Int} {w : World} {v : Value} {ys : List Int} (h : App W ao n xs w v ys) (o : Obj) : App W ao n xs (w.alloc o) v ys :=
  h.step ((Below.refl _ _).alloc (Nat.le_refl _) o)

theorem addr_add0 (g j : Nat) : (⟨g, 0, none⟩ : Addr).add j = ⟨g, j, none⟩ := by unfold Addr.add; split <;> simp_all

theorem CB.cells {W : World} {ao : Option Addr} {n : Nat} {xs : List Int} (h : CB W ao n xs) : ∀ b, ao = some b → ∀ j u, (xs.map (Value.int .u8))[j]? = some u → W.cell? (b.add j) = some u := by
  intro b hb j u hj
  rcases h.2 with ⟨h1, _⟩ | ⟨g, h1, h2⟩
  · rw [h1] at hb; cases hb
  · rw [h1] at hb
    cases hb
    rw [addr_add0]
    simp only [World.cell?, h2]
    simpa using hj
theorem CB.below {W w : World} {ao : Option Addr} {n : Nat} {xs : List Int} (h : CB W ao n xs) (hb : Below W.heap.size W w) : CB w ao n xs := by
  refine ⟨h.1, h.2.imp id fun ⟨g, h1, h2⟩ => ⟨g, h1, ?_⟩⟩
  have hg : g < W.heap.size := (Array.getElem?_eq_some_iff.1 h2).1
  rw [hb.block g hg]; exact h2

/-- 'b = append(b, x ..)': ONE WAY. -/
theorem wpList_append_app {W : World} {ao : Option Addr} {n : Nat} {xs : List Int} (hc : CB W ao n xs) (w : World) {ops : Array Oper} {rest : List Oper} {o : Oper} {a : Act} {Q : Exit → Act → World → Prop}
    (hg : o.guard = none) (s x : Operand) (hop : o.op = Op.call { callee := Callee.builtin Builtin.append, args := #[s, x], argTypes := #[22, 22] })
    {v : Value} {ys : List Int} (hs : a.eval s = v) (h : App W ao n xs w v ys) (ad : Addr) (m c : Nat) (news : List Int) (hx : a.eval x = .slice (some ad) m c) (hn : news.length = m) (hm : 0 < m)
    (hcn : ∀ j u, (news.map (Value.int .u8))[j]? = some u → w.cell? (ad.add j) = some u) (hb : n + ys.length + m ≤ 100000000)
    (hK : ∀ v' w', App W ao n xs w' v' (ys ++ news) → (∀ g, g < w.heap.size → v.ownBlock ≠ some g → w'.heap[g]? = w.heap[g]? ∧ v'.ownBlock ≠ some g) → w.heap.size ≤ w'.heap.size → wpList Try.prog ops Q rest (a.put o.dst v') w') : wpList Try.prog ops Q (o :: rest) a w := by
  obtain ⟨i0, hi, hz0, hz1, hz2⟩ := info_parts Try.info5
  have hone : ∀ u ∈ news.map (Value.int .u8), u.oneCell' = true := by
    intro u hu
    simp only [List.mem_map] at hu
    obtain ⟨_, _, rfl⟩ := hu
    rfl
  rcases h.val with ⟨rfl, rfl⟩ | hown
  · refine wpList_append_grows w hg s x 22 hop 5 i0 (.int .u8 0) 1 1 Try.underlying22 hi hz0 hz1 hz2 rfl (by decide) ao n n (xs.map (Value.int .u8)) hs ?_ (by simp [hc.1]) (fun b hb' j u hj => (hc.below h.below).cells b hb' j u hj) ad m c (news.map (Value.int .u8)) hx (by simp [hn]) hcn hone (by omega) (by simp at hb; unfold maxLen; omega) (by simp at hb; omega) ?_
    · intro e
      rcases hc.2 with ⟨_, h2⟩ | ⟨g, h1, _⟩
      · exact ⟨h2, h2⟩
      · rw [e] at h1; cases h1
    · intro v' w' hown' hgrow
      refine hK v' w' ⟨h.below.trans ((Below.refl _ _).grown hgrow h.below.size (fun k h => by cases h)), .inr ?_⟩ (fun g hg _ => ⟨hgrow.block g hg (by simp), fun e => by have := (hown'.lt g e).1; omega⟩) hgrow.size
      have hown2 : w'.ownsRow W.heap.size 5 1 v' (n + m) (xs.map (Value.int .u8) ++ news.map (Value.int .u8)) := by
        obtain ⟨h1, h2⟩ := hown'
        refine ⟨h1, h2.imp id fun ⟨g, cap, cur, h3, h4, h5⟩ => ⟨g, cap, cur, h3, Nat.le_trans h.below.size h4, h5⟩⟩
      simpa [hn] using hown2
  · refine wpList_append_own_at w hg s x 22 hop W.heap.size 5 i0 (.int .u8 0) 1 1 Try.underlying22 hi hz0 hz1 hz2 rfl (by decide) v (n + ys.length) _ hs hown ad m c (news.map (Value.int .u8)) hx (by simp [hn]) hcn hone (by unfold maxLen; omega) (by omega) h.below.size ?_
    intro v' w' hown' hgrow _ hat
    refine hK v' w' ⟨h.below.grown hgrow h.below.size (fun k hk => (hown.lt k hk).1), .inr ?_⟩ (fun g hg hne => ⟨hgrow.block g hg (fun e => hne e.symm), fun e => by
      rcases hat with h1 | h1
      · exact hne (h1.symm.trans e)
      · have h2 := h1.symm.trans e; simp at h2; omega⟩) hgrow.size
    have : n + (ys ++ news).length = n + ys.length + m := by simp [hn]; omega
    rw [this]
    simpa using hown'

/-- The value's row lies among the blocks that are there. -/
theorem App.lt {W : World} {ao : Option Addr} {n : Nat} {xs : List Int} (hc : CB W ao n xs) {w : World} {v : Value} {ys : List Int} (h : App W ao n xs w v ys) : v.ownBlock ≠ some w.heap.size := by
  intro e
  rcases h.val with ⟨rfl, _⟩ | hown
  · rcases hc.2 with ⟨rfl, _⟩ | ⟨g, rfl, h2⟩
    · simp [Value.ownBlock] at e
    · have hg : g < W.heap.size := (Array.getElem?_eq_some_iff.1 h2).1
      have := h.below.size
      simp [Value.ownBlock] at e
      omega
  · have := (hown.lt _ e).2
    omega
theorem App.weaken {W W1 : World} {ao : Option Addr} {n : Nat} {xs : List Int} {w : World} {v : Value} {ys : List Int} (hb : Below W.heap.size W W1) (h : App W1 ao n xs w v ys) : App W ao n xs w v ys :=
  ⟨hb.trans (h.below.mono hb.size), h.val.imp id fun ⟨h1, h2⟩ => ⟨h1, h2.imp id fun ⟨g, cap, cur, h3, h4, h5⟩ => ⟨g, cap, cur, h3, Nat.le_trans hb.size h4, h5⟩⟩⟩
theorem cell_news (w : World) (l : List Int) (t : TypeId) : ∀ j u, (l.map (Value.int .u8))[j]? = some u → (w.alloc (.cells (l.map (Value.int .u8)).toArray t)).cell? ((⟨w.heap.size, 0, none⟩ : Addr).add j) = some u := by
  intro j u hj
  rw [addr_add0, World.cell?_alloc_new]
  simpa using hj

/-- At the end, something having been appended: where the value lies. -/
theorem App.value {W : World} {ao : Option Addr} {n : Nat} {xs : List Int} {w : World} {v : Value} {ys : List Int} (h : App W ao n xs w v ys) (hne : ys ≠ []) :
    ∃ g cap, v = .slice (some ⟨g, 0, none⟩) (n + ys.length) cap ∧ n + ys.length ≤ cap ∧ cap ≤ maxLen ∧ W.heap.size ≤ g ∧ ∀ j x, (xs ++ ys)[j]? = some x → w.cell? ⟨g, j, none⟩ = some (.int .u8 x) := by
  rcases h.val with ⟨_, h⟩ | hown
  · exact absurd h hne
  · have hcells := fun g hg => hown.cells (g := g) hg
    obtain ⟨h1, h2⟩ := hown
    rcases h2 with ⟨_, h2⟩ | ⟨g, cap, cur, h3, h4, h5, h6, h7, _⟩
    · exfalso; apply hne; have : ys.length = 0 := by omega
      exact List.eq_nil_of_length_eq_zero this
    · refine ⟨g, cap, h3, h6, h7, h4, fun j x hj => ?_⟩
      have := hcells g (by rw [h3]; rfl) j (.int .u8 x) (by rw [List.getElem?_map, hj]; rfl)
      rwa [addr_add0] at this
end Go.Proofs.Qxb6603969a
