import Derived.Test.Qxb6603969aChars
namespace Go.Proofs.Qxb6603969a
open Go.RowKit

/-- An owned row's value is a slice of that length. -/
theorem own_form {w : World} {b : Nat} {e : TypeId} {v : Value} {n : Nat} {xs : List Value} (h : w.ownsRow b e 1 v n xs) : ∃ ao cap, v = .slice ao n cap ∧ n ≤ cap ∧ cap ≤ maxLen ∧ (0 < n → ∃ g, ao = some ⟨g, 0, none⟩) := by
  rcases h.2 with ⟨rfl, rfl⟩ | ⟨g, cap, cur, rfl, _, _, h6, h7, _⟩
  · exact ⟨none, 0, rfl, Nat.le_refl _, Nat.zero_le _, fun h => absurd h (by omega)⟩
  · exact ⟨_, cap, rfl, h6, h7, fun _ => ⟨g, rfl⟩⟩

/-- 'v = append(v, ..)', v the call's own, beside another row u of the call's own, which stays. -/
theorem wpList_append_pair {W : World} (w : World) {ops : Array Oper} {rest : List Oper} {o : Oper} {a : Act} {Q : Exit → Act → World → Prop}
    (hg : o.guard = none) (s x : Operand) (hop : o.op = Op.call { callee := Callee.builtin Builtin.append, args := #[s, x], argTypes := #[22, 22] })
    {v u : Value} {n k : Nat} {xs us : List Int} (hs : a.eval s = v) (hb : Below W.heap.size W w) (hv : w.ownsRow W.heap.size 5 1 v n (xs.map (Value.int .u8))) (hu : w.ownsRow W.heap.size 5 1 u k (us.map (Value.int .u8))) (hsep : u.ownBlock = none ∨ u.ownBlock ≠ v.ownBlock)
    (ad : Addr) (m c : Nat) (news : List Int) (hx : a.eval x = .slice (some ad) m c) (hn : news.length = m) (hm : 0 < m)
    (hcn : ∀ j y, (news.map (Value.int .u8))[j]? = some y → w.cell? (ad.add j) = some y) (hbd : n + m ≤ 100000000)
    (hK : ∀ g cap w', w'.ownsRow W.heap.size 5 1 (.slice (some ⟨g, 0, none⟩) (n + m) cap) (n + m) ((xs ++ news).map (Value.int .u8)) → w'.ownsRow W.heap.size 5 1 u k (us.map (Value.int .u8)) → (u.ownBlock = none ∨ u.ownBlock ≠ some g) → Below W.heap.size W w' → n + m ≤ cap → wpList Try.prog ops Q rest (a.put o.dst (.slice (some ⟨g, 0, none⟩) (n + m) cap)) w') : wpList Try.prog ops Q (o :: rest) a w := by
  obtain ⟨i0, hi, hz0, hz1, hz2⟩ := info_parts Try.info5
  have hone : ∀ u ∈ news.map (Value.int .u8), u.oneCell' = true := by
    intro u hu
    simp only [List.mem_map] at hu
    obtain ⟨_, _, rfl⟩ := hu
    rfl
  refine wpList_append_own_at w hg s x 22 hop W.heap.size 5 i0 (.int .u8 0) 1 1 Try.underlying22 hi hz0 hz1 hz2 rfl (by decide) v n _ hs hv ad m c (news.map (Value.int .u8)) hx (by simp [hn]) hcn hone (by unfold maxLen; omega) (by omega) hb.size ?_
  intro v' w' hown' hgrow _ hat
  obtain ⟨ao, cap, rfl, hle, _, hpos⟩ := own_form hown'
  obtain ⟨g, rfl⟩ := hpos (by omega)
  refine hK g cap w' (by rw [List.map_append]; exact hown') (hu.kept hgrow hsep) ?_ (hb.grown hgrow hb.size (fun k hk => (hv.lt k hk).1)) hle
  rcases hsep with h | h
  · exact .inl h
  · rcases hat with h1 | h1
    · right; intro e; apply h; rw [e, ← h1]; rfl
    · right
      intro e
      have h2 : g = w.heap.size := by simpa [Value.ownBlock] using h1
      have := (hu.lt g e).2
      omega

/-! ### the text at a place -/
theorem pres_char {ls done rest : List (List Int)} {a b : List Int} {x : Int} (h : ls = done ++ (a ++ x :: b) :: rest) : presL ls = (presL done ++ escL a) ++ (esc x ++ (escL b ++ 46 :: presL rest)) := by
  rw [h, presL_append]; simp [presL, escL_append, escL]
theorem pres_dot {ls done rest : List (List Int)} {a : List Int} (h : ls = done ++ (a ++ []) :: rest) : presL ls = (presL done ++ escL a) ++ (46 :: presL rest) := by
  rw [h, presL_append]; simp [presL]
/-- The cell of the text at place i + j. -/
theorem cell_at {w wr : World} {g off : Nat} {ps pre mid post : List Int} (hp : ∀ j x, ps[j]? = some x → w.cell? ⟨g, off + j, none⟩ = some (.int .u8 x)) (hb : Below w.heap.size w wr) (h : ps = pre ++ (mid ++ post)) {i : Nat} (hi : pre.length = i) (j : Nat) (x : Int) (hx : mid[j]? = some x) :
    wr.cell? ⟨g, off + (i + j), none⟩ = some (.int .u8 x) := by
  have hj : j < mid.length := (List.getElem?_eq_some_iff.1 hx).1
  have h1 : ps[i + j]? = some x := by
    rw [h, List.getElem?_append_right (by omega), hi, Nat.add_sub_cancel_left, List.getElem?_append_left hj]; exact hx
  have h2 := hp _ _ h1
  have hlt := World.block_lt_of_cell? _ _ h2
  exact (hb.cell (p := ⟨g, off + (i + j), none⟩) hlt).trans h2

/-- The relation of parsePresentation's loop. -/
def RP (ls : List (List Int)) (w : World) (wv lv iv : Value) (wr : World) : Prop :=
  ∃ (done : List (List Int)) (a : List Int) (i : Nat) (wo lo : Option Addr) (wc lc : Nat), i = (presL done ++ escL a).length ∧ iv = .int .i64 i ∧ wv = .slice wo (encL done).length wc ∧ lv = .slice lo a.length lc ∧
    wr.ownsRow w.heap.size 5 1 (.slice wo (encL done).length wc) (encL done).length ((encL done).map (Value.int .u8)) ∧ wr.ownsRow w.heap.size 5 1 (.slice lo a.length lc) a.length (a.map (Value.int .u8)) ∧
    ((Value.slice wo (encL done).length wc).ownBlock = none ∨ (Value.slice wo (encL done).length wc).ownBlock ≠ (Value.slice lo a.length lc).ownBlock) ∧ Below w.heap.size w wr ∧ ((ls = done ∧ a = []) ∨ ∃ b rest, ls = done ++ (a ++ b) :: rest)
end Go.Proofs.Qxb6603969a
