import Derived.Test.Qxb6604039aClone
namespace Go.Proofs.Qxb6604039a
open Go.RowKit
theorem Try.info60 : (Try.prog.info? 60).map (fun i => (i.zero, i.size, i.bytes)) = some (some (.agg #[.int .u64 0, .bool false, .slice none 0 0]), 3, 40) := by kernel_rfl

/-- What ZZComponents answers. -/
def ZOut (g : List (List Nat)) (n : Nat) (w : World) (e : Ending) (w' : World) : Prop :=
  ∃ (B : Nat) (comp : Nat → Int) (cnt : Nat), w.heap.size ≤ B ∧ e = .returned (.tuple #[.slice (some ⟨B, 0, none⟩) n n, .int .i64 cnt]) ∧ Row w' B 3 n (fun i => .int .i64 (comp i)) ∧ CInv g (fun v => v < g.length) comp cnt ∧ cnt ≤ n ∧ Below w.heap.size w w'
/-- The first k nodes have their successors. -/
def Nd (w w' : World) (a : Option Addr) (n k : Nat) : Prop :=
  ∃ xs, w'.ownsRow w.heap.size 60 3 (.slice (some ⟨w.heap.size, 0, none⟩) n n) n xs ∧ ∀ i, i < k → ∀ b v, a = some ⟨b, 0, none⟩ → w.cell? ⟨b, i, none⟩ = some v → xs[i * 3 + 2]? = some v
theorem Nd.next {w w' : World} {b n k : Nat} {v : Value} (h : Nd w w' (some ⟨b, 0, none⟩) n k) (hk : k < n) (hv : w.cell? ⟨b, k, none⟩ = some v) : Nd w (w'.setCell ⟨w.heap.size, k * 3 + 2, none⟩ v) (some ⟨b, 0, none⟩) n (k + 1) := by
  obtain ⟨xs, ho, hx⟩ := h
  refine ⟨xs.set (k * 3 + 2) v, (ho.stored _ _).1, fun i hi b' v' e hc => ?_⟩
  cases e
  by_cases e : i = k
  · subst e
    rw [hv] at hc; cases hc
    rw [List.getElem?_set_self (by rw [ho.1]; omega)]
  · rw [List.getElem?_set_ne (by omega)]
    exact hx i (by omega) b v' rfl hc

set_option maxHeartbeats 4000000 in
set_option maxRecDepth 100000 in
theorem zzcomps_any (a : Option Addr) (n : Nat) (g : List (List Nat)) (w : World) (hn : n ≤ 1024) (h : SuccAt w a n g) :
    Calls Try.prog 9 #[.slice a n n] w fun e w' => ZOut g n w e w' := by
  obtain ⟨i60, hi60, hz060, hz160, hz260⟩ := info_parts Try.info60
  have HR : Hid (SuccAt w a n g) := h
  clear h
  go_enter Try.func9, Try.ntmps9
  go_wp2_with (at_make; refine wpList_make_full _ rfl _ _ 56 rfl w.heap.size 60 i60 (.agg #[.int .u64 0, .bool false, .slice none 0 0]) 3 Try.underlying56 hi60 hz060 hz160 _ _ _ _ n rfl rfl (by omega) (by omega) (by rw [hz260]; omega) (by unfold maxLen; omega) (Nat.le_refl _) ?_; intro w1 hown hgrow)
  have hr0 : Hid (Nd w w1 a n 0) := ⟨_, hown, fun i hi => absurd hi (by omega)⟩
  have hb0 : Below w.heap.size w w1 := (Below.refl _ _).grown hgrow (Nat.le_refl _) (fun k hk => by cases hk)
  clear hown hgrow
  go_loopw [11] (fun i wr => ∃ k : Nat, k ≤ n ∧ i = .int .i64 k ∧ Hid (Nd w wr a n k) ∧ Below w.heap.size w wr) (fun i _ => n - (intOf i).toNat)
  case atStart => exact ⟨0, Nat.zero_le _, rfl, hr0, hb0⟩
  case round =>
    clear hr0 hb0
    obtain ⟨k, hk, rfl, hcl, hbel⟩ := hrel
    by_cases hlt : k < n
    · obtain ⟨b, a', c', hx, hc, _, _⟩ := HR.out.2 k hlt
      subst hx
      have hc' : wr.cell? ⟨b, k, none⟩ = some (.slice a' (sc g k).length c') := (World.cell?_of_block (hbel.block b (World.block_lt_of_cell? w _ hc))).trans hc
      have i0 : (0 : Int) ≤ (k : Int) := by omega
      have i1 : (k : Int) < (n : Int) := by omega
      obtain ⟨xs, ho, _⟩ := hcl.out
      obtain ⟨v0, zA⟩ : ∃ v0, wr.cell? ⟨w.heap.size, k * 3 + 2, none⟩ = some v0 := ⟨xs[k * 3 + 2]'(by rw [ho.1]; omega), by
        rw [ho.cellAt _ (by omega)]; exact List.getElem?_eq_getElem _⟩
      have fA := ho.frozenAt (k * 3 + 2)
      have HC : Hid (w.cell? ⟨b, k, none⟩ = some (.slice a' (sc g k).length c')) := hc
      clear ho hc
      go_wp2_with fail
      go_roundw
      case rel => exact ⟨k + 1, by omega, by go_num, hcl.out.next hlt HC.out, Below.setCell hbel (by simp) _⟩
      case measure => simp [intOf]; omega
    · obtain rfl : n = k := by omega
      have HN : Hid (NodesAt wr w.heap.size n g) := by
        obtain ⟨xs, ho, hx⟩ := hcl.out
        refine ⟨HR.out.1, fun v hv => ?_⟩
        obtain ⟨b, a', c', h1, h2, h3, h4⟩ := HR.out.2 v hv
        refine ⟨a', c', by rw [ho.cellAt _ (by omega)]; exact hx v hv b _ h1 h2, h3, fun j u hj => ?_⟩
        obtain ⟨h5, b', h6, h7⟩ := h4 j u hj
        exact ⟨h5, b', h6, (World.cell?_of_block (hbel.block b' (World.block_lt_of_cell? w _ h7))).trans h7⟩
      go_wp2_with (go_at_call 27; refine (comps_any w.heap.size n g wr hn HN.out).mono ?_; rintro e w2 ⟨comp, cnt, rfl, hrow, hci, hcn, hb2⟩)
      go_ret2
      exact ⟨wr.heap.size + 4, comp, cnt, by have := hbel.size; omega, rfl, hrow, hci, hcn, hbel.trans (hb2.mono hbel.size)⟩
end Go.Proofs.Qxb6604039a
