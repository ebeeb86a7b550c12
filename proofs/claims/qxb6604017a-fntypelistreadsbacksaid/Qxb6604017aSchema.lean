import Derived.Test.Qxb6604017aSts
import Derived.Deep.RegionHeld3
namespace Go.Proofs.Qxb6604017a
open Go.RowKit
theorem Try.info25 : (Try.prog.info? 25).map (fun i => (i.zero, i.size, i.bytes)) = some (some (.agg #[.string ⟨#[]⟩, .bool false, .string ⟨#[]⟩]), 3, 40) := by kernel_rfl

/-- A row of n kinds in a block g. -/
def KRow (w : World) (g n : Nat) (ts : List K3) (k : Nat) : Prop :=
  ∃ C : Array Value, w.heap[g]? = some (.cells C 25) ∧ C.size = n * 3 ∧ ∀ (j : Nat) (t : K3), j < k → ts[j]? = some t → C[j * 3]? = some (.string t.ty) ∧ C[j * 3 + 1]? = some (.bool t.wild) ∧ C[j * 3 + 2]? = some (.string t.rel)
theorem krow_made {w : World} {b g n : Nat} {xs : List Value} {ts : List K3} (h : w.ownsRow b 25 3 (.slice (some ⟨g, 0, none⟩) n n) n xs) : KRow w g n ts 0 := by
  rcases h.2 with ⟨h, _⟩ | ⟨g', cap, cur, hv, _, hh, _, _, hs, _⟩
  · simp at h
  · simp only [Value.slice.injEq, Option.some.injEq, Addr.mk.injEq, and_true, true_and] at hv
    obtain ⟨rfl, rfl⟩ := hv
    exact ⟨cur, hh, hs, fun j t hj => absurd hj (by omega)⟩
theorem KRow.at {w : World} {g n k : Nat} {ts : List K3} (h : KRow w g n ts k) {i : Nat} (hi : i < n * 3) : (∃ v, w.cell? ⟨g, i, none⟩ = some v) ∧ w.frozen? ⟨g, i, none⟩ = false := by
  obtain ⟨C, h1, h2, _⟩ := h
  refine ⟨⟨C[i]'(by omega), ?_⟩, by simp [World.frozen?, h1]⟩
  simp only [World.cell?, h1]; simp [show i < C.size by omega]

theorem heap_set {w : World} {g i : Nat} {C : Array Value} {v : Value} {e : TypeId} (h : w.heap[g]? = some (.cells C e)) : (w.setCell ⟨g, i, none⟩ v).heap[g]? = some (.cells (C.setIfInBounds i v) e) := by
  simp only [World.setCell, Array.getElem?_modify, h]
  simp
theorem krow_next {w : World} {g n k : Nat} {ts : List K3} {t : K3} (h : KRow w g n ts k) (hk : k < n) (ht : ts[k]? = some t) :
    KRow (((w.setCell ⟨g, k * 3, none⟩ (.string t.ty)).setCell ⟨g, k * 3 + 1, none⟩ (.bool t.wild)).setCell ⟨g, k * 3 + 2, none⟩ (.string t.rel)).drew g n ts (k + 1) := by
  obtain ⟨C, h1, h2, h3⟩ := h
  refine ⟨((C.setIfInBounds (k * 3) (.string t.ty)).setIfInBounds (k * 3 + 1) (.bool t.wild)).setIfInBounds (k * 3 + 2) (.string t.rel), heap_set (heap_set (heap_set h1)), by simp [h2], fun j u hj hu => ?_⟩
  by_cases e : j = k
  · subst e
    obtain rfl : u = t := by rw [ht] at hu; exact (Option.some.inj hu).symm
    refine ⟨?_, ?_, ?_⟩
    · rw [Array.getElem?_setIfInBounds_ne (by omega), Array.getElem?_setIfInBounds_ne (by omega), Array.getElem?_setIfInBounds_self_of_lt (by omega)]
    · rw [Array.getElem?_setIfInBounds_ne (by omega), Array.getElem?_setIfInBounds_self_of_lt (by simp; omega)]
    · rw [Array.getElem?_setIfInBounds_self_of_lt (by simp; omega)]
  · obtain ⟨c1, c2, c3⟩ := h3 j u (by omega) hu
    refine ⟨?_, ?_, ?_⟩
    · rw [Array.getElem?_setIfInBounds_ne (by omega), Array.getElem?_setIfInBounds_ne (by omega), Array.getElem?_setIfInBounds_ne (by omega)]; exact c1
    · rw [Array.getElem?_setIfInBounds_ne (by omega), Array.getElem?_setIfInBounds_ne (by omega), Array.getElem?_setIfInBounds_ne (by omega)]; exact c2
    · rw [Array.getElem?_setIfInBounds_ne (by omega), Array.getElem?_setIfInBounds_ne (by omega), Array.getElem?_setIfInBounds_ne (by omega)]; exact c3

def SOut (w : World) (n : Nat) (ts : List K3) (e : Ending) (w' : World) : Prop :=
  ∃ ao, e = .returned (.slice ao n n) ∧ (0 < n → ∃ g, ao = some ⟨g, 0, none⟩ ∧ KRow w' g n ts n ∧ w.heap.size ≤ g) ∧ Below w.heap.size w w'

set_option maxHeartbeats 2000000 in
set_option maxRecDepth 100000 in
theorem toschema_any (b off len cap : Nat) (ts : List K3) (w : World) (hlen : len ≤ 65536) (h : STs w (some ⟨b, off, none⟩) len cap ts) :
    Calls Try.prog 13 #[.slice (some ⟨b, off, none⟩) len cap] w fun e w' => SOut w len ts e w' := by
  have hq := fun w => Lib.run_eql_slice_nil (P := Try.prog) w 29 28 (some ⟨b, off, none⟩) len cap 0 0 Try.underlying29
  obtain ⟨i0, hi, hz0, hz1, hz2⟩ := info_parts Try.info25
  have HS : Hid (STs w (some ⟨b, off, none⟩) len cap ts) := h
  have hlc := h.2.1
  have hcm := h.2.2.1
  unfold maxLen at hcm
  clear h
  go_enter Try.func13, Try.ntmps13
  go_wp2_with (at_make; refine wpList_make_full _ rfl _ _ 34 rfl w.heap.size 25 i0 (.agg #[.string ⟨#[]⟩, .bool false, .string ⟨#[]⟩]) 3 Try.underlying34 hi hz0 hz1 _ _ _ _ len rfl rfl (by omega) (by omega) (by rw [hz2]; omega) (by unfold maxLen; omega) (Nat.le_refl _) ?_; intro w1 hown hgrow)
  go_loopw [4] (fun i wr => ∃ k : Nat, k ≤ len ∧ i = .int .i64 k ∧ KRow wr w.heap.size len ts k ∧ Below w.heap.size w wr ∧ w.heap.size < wr.heap.size) (fun i _ => len - (intOf i).toNat)
  case atStart => exact ⟨0, Nat.zero_le _, rfl, krow_made hown, (Below.refl _ _).grown hgrow (Nat.le_refl _) (fun k h => by cases h), (hown.lt _ rfl).2⟩
  case round =>
    clear hown hgrow
    obtain ⟨k, hk, rfl, hkr, hbel, hgs⟩ := hrel
    by_cases hlt : k < len
    · obtain ⟨t, ht⟩ : ∃ t, ts[k]? = some t := ⟨_, List.getElem?_eq_getElem (by rw [HS.out.1]; exact hlt)⟩
      rcases (HS.out.below hbel).2.2.2 with ⟨h0, _⟩ | ⟨b', off', hbo, hcs⟩
      · omega
      obtain ⟨rfl, rfl⟩ : b' = b ∧ off' = off := by simpa using hbo.symm
      obtain ⟨x1, x2, x3, m1, m2⟩ := hcs k t ht
      have hbw : b' < w.heap.size := by
        rcases HS.out.2.2.2 with ⟨h0, _⟩ | ⟨b2, off2, hbo2, hcs2⟩
        · omega
        · obtain ⟨rfl, rfl⟩ : b2 = b' ∧ off2 = off' := by simpa using hbo2.symm
          exact World.block_lt_of_cell? _ _ (hcs2 k t ht).1
      obtain ⟨⟨v1, y1⟩, f1⟩ := hkr.at (i := k * 3) (by omega)
      obtain ⟨⟨v2, y2⟩, f2⟩ := hkr.at (i := k * 3 + 1) (by omega)
      obtain ⟨⟨v3, y3⟩, f3⟩ := hkr.at (i := k * 3 + 2) (by omega)
      have i0 : (0 : Int) ≤ (k : Int) := by omega
      have i1 : (k : Int) < (len : Int) := by omega
      have hne : ¬ w.heap.size = b' := by omega
      have HT : Hid (ts[k]? = some t) := ht
      have HKR : Hid (KRow wr w.heap.size len ts k) := hkr
      clear hcs ht hkr hbo
      go_wp2_with fail
      go_region_held3 (fun w' => w'.cell? ⟨b', off' + k * 3, none⟩ = some (.string t.ty) ∧ w'.cell? ⟨b', off' + k * 3 + 1, none⟩ = some (.bool t.wild) ∧ w'.cell? ⟨b', off' + k * 3 + 2, none⟩ = some (.string t.rel)) (simp [go_sem, *]) (fail)
      go_wp2_with fail
      go_roundw
      case rel => exact ⟨k + 1, by omega, by go_num, krow_next HKR.out hlt HT.out, (((hbel.setCell (Nat.le_refl _) _).setCell (Nat.le_refl _) _).setCell (Nat.le_refl _) _).drew, by simpa [World.size_setCell, World.size_drew] using hgs⟩
      case measure => simp [intOf]; omega
    · obtain rfl : k = len := by omega
      go_wp2
      go_ret
      exact ⟨_, rfl, fun _ => ⟨_, rfl, hkr, Nat.le_refl _⟩, hbel⟩
end Go.Proofs.Qxb6604017a
