import Derived.Test.Qxb6604017aAcc
namespace Go.Proofs.Qxb6604017a
open Go.RowKit

theorem star_list : ((⟨#[42]⟩ : ByteArray).toList == [42]) = true := by rw [ByteArray.toList_eq]; rfl
theorem keep2 {w w' : World} {a b : Addr} {x y : Value} (hb : Below w.heap.size w w') (h : w.cell? a = some x ∧ w.cell? b = some y) : w'.cell? a = some x ∧ w'.cell? b = some y :=
  ⟨(hb.cell (World.block_lt_of_cell? _ _ h.1)).trans h.1, (hb.cell (World.block_lt_of_cell? _ _ h.2)).trans h.2⟩

set_option maxHeartbeats 4000000 in
set_option maxRecDepth 100000 in
theorem law_accepts (s p : ByteArray) (a : Option Addr) (len cap : Nat) (i : Int) (ts : List K3) (w : World) (hs : s.size ≤ maxLen) (hp : p.size ≤ maxLen) (h : STs w a len cap ts) (hi0 : -9223372036854775808 ≤ i) (hi1 : i ≤ 9223372036854775807) :
    Calls Try.prog 5 #[.string s, .slice a len cap, .int .i64 i, .string p] w fun e w' => e = .returned (.bool true) ∧ Below w.heap.size w w' := by
  have HS : Hid (STs w a len cap ts) := h
  have hlc := h.2.1
  have hcm := h.2.2.1
  have hs' := hs
  have hp' := hp
  unfold maxLen at hcm hs' hp'
  clear h
  go_enter Try.func5, Try.ntmps5
  go_wp2_with fail
  refine (zzb15 s p a len cap i ts _ hs hp HS.out).mono ?_
  rintro e w' ⟨b, rfl, rfl⟩
  cases b
  · go_wp2
    go_ret
    exact ⟨rfl, Below.refl _ _⟩
  by_cases c1 : (1048576 : Int) < (s.size : Int)
  · go_wp2
    go_ret
    exact ⟨rfl, Below.refl _ _⟩
  by_cases c2 : (1048576 : Int) < (p.size : Int)
  · go_wp2
    go_ret
    exact ⟨rfl, Below.refl _ _⟩
  by_cases c3 : (65536 : Int) < (len : Int)
  · go_wp2
    go_ret
    exact ⟨rfl, Below.refl _ _⟩
  go_wp2_with fail
  refine (stbytes_any a len cap ts _ (by omega) HS.out).mono ?_
  rintro e w1 ⟨nb, q, rfl, rfl⟩
  by_cases hin : 0 ≤ i ∧ i < (len : Int)
  · obtain ⟨hin0, hin1⟩ := hin
    obtain ⟨k, rfl⟩ := Int.eq_ofNat_of_zero_le hin0
    have hk : k < len := by omega
    obtain ⟨t, ht⟩ : ∃ t, ts[k]? = some t := ⟨_, List.getElem?_eq_getElem (by rw [HS.out.1]; exact hk)⟩
    have HT : Hid (ts[k]? = some t) := ht
    obtain ⟨b, off, rfl, hcs⟩ : ∃ b off, a = some ⟨b, off, none⟩ ∧ ∀ (i : Nat) (t : K3), ts[i]? = some t →
        w.cell? ⟨b, off + i * 3, none⟩ = some (.string t.ty) ∧ w.cell? ⟨b, off + i * 3 + 1, none⟩ = some (.bool t.wild) ∧ w.cell? ⟨b, off + i * 3 + 2, none⟩ = some (.string t.rel) ∧ t.ty.size ≤ maxLen ∧ t.rel.size ≤ maxLen := by
      rcases HS.out.2.2.2 with ⟨h0, _⟩ | h
      · omega
      · exact h
    obtain ⟨x1, x2, x3, m1, m2⟩ := hcs k t ht
    have hbw : b < w.heap.size := World.block_lt_of_cell? _ _ x1
    have hst := HS.out.below (below_drewN (Below.refl _ w) q)
    have HST : Hid (STs (w.drewN q) (some ⟨b, off, none⟩) len cap ts) := hst
    clear hcs ht hst
    by_cases hstar : (p.toList == [42]) = true
    · go_wp2
      all_goals
        go_ret
        exact ⟨rfl, below_drewN (Below.refl _ _) _⟩
    have hst2 : (p.toList == [42]) = false := by simpa using hstar
    clear hstar
    have x1' : (w.drewN q).cell? ⟨b, off + k * 3, none⟩ = some (.string t.ty) := x1
    have x3' : (w.drewN q).cell? ⟨b, off + k * 3 + 2, none⟩ = some (.string t.rel) := x3
    cases hwild : t.wild
    all_goals
      go_wp2_with (go_at_call 13; refine (toschema_any b off len cap ts _ (by omega) HST.out).mono ?_; rintro e w2 ⟨ao, rfl, hao, hb2⟩)
      · go_ret
        exact ⟨rfl, below_drewN (Below.refl _ _) _⟩
      obtain ⟨g, rfl, hkr, hge⟩ := hao (by omega)
      obtain ⟨W3, hW3⟩ : ∃ W3, W3 = w2.alloc (.cells #[.string s, .slice (some ⟨g, 0, none⟩) len len] 37) := ⟨_, rfl⟩
      have hb3 : Below w2.heap.size w2 W3 := by rw [hW3]; exact (Below.refl _ _).alloc (Nat.le_refl _) _
      have hr3 : W3.cell? ⟨w2.heap.size, 1, none⟩ = some (.slice (some ⟨g, 0, none⟩) len len) := by rw [hW3]; simp [go_sem]
      have hk3 := krow_below hkr hb3
      have y := keep2 hb3 (keep2 hb2 ⟨x1', x3'⟩)
      obtain ⟨y1, y3⟩ := y
      have hlt3 : w2.heap.size < W3.heap.size := by rw [hW3]; simp
      rw [← hW3]
      have HK3 : Hid (KRow W3 g len ts len) := hk3
      have HR3 : Hid (W3.cell? ⟨w2.heap.size, 1, none⟩ = some (.slice (some ⟨g, 0, none⟩) len len)) := hr3
      clear hW3 hkr hk3 hr3 hao x1 x2 x3 x1' x3' HST
      have ii0 : (0 : Int) ≤ (k : Int) := by omega
      have ii1 : (k : Int) < (len : Int) := by omega
      go_region_held3 (fun w' => w'.cell? ⟨b, off + k * 3, none⟩ = some (.string t.ty) ∧ w'.cell? ⟨b, off + k * 3 + 2, none⟩ = some (.string t.rel)) (first | (simp [go_sem, *]; done) | exact keep2 hb4 (by simp [go_sem, *]) | exact keep2 hb5 (keep2 hb4 (by simp [go_sem, *])))
        (first
          | (go_at_call 17; refine (subject_any t.ty _ t.rel _).mono ?_; rintro e w4 ⟨rfl, hb4⟩)
          | (go_at_call 16; refine (accepts_any w2.heap.size g len k ts t _ (by rw [hwild]; first | exact hst2 | exact star_list) _ (by omega) HS.out.1 (krow_below (krow_below HK3.out (Below.refl _ W3).drew) (by exact hb4)) HT.out (by exact (hb4.cell (World.block_lt_of_cell? _ _ HR3.out)).trans HR3.out)).mono ?_; rintro e w5 ⟨rfl, hb5⟩))
      all_goals
        go_wp2
        go_ret
        exact ⟨rfl, ((((below_drewN (Below.refl _ w) q).trans (hb2.mono (Nat.le_refl _))).trans (hb3.mono hb2.size)).drew.trans (hb4.mono (by exact Nat.le_trans hb2.size hb3.size))).trans (hb5.mono (Nat.le_trans (Nat.le_trans hb2.size hb3.size) hb4.size))⟩
  · have hz : (i < 0 ∨ (len : Int) ≤ i) := by omega
    rcases hz with hz | hz
    · go_wp2
      all_goals
        go_ret
        exact ⟨rfl, below_drewN (Below.refl _ _) _⟩
    · have hz2 : ¬ i < 0 := by omega
      go_wp2
      all_goals
        go_ret
        exact ⟨rfl, below_drewN (Below.refl _ _) _⟩
end Go.Proofs.Qxb6604017a
