import Derived.Test.Qxb6603969aParse
import Derived.Test.Qxb6603969aValid
import Derived.Test.Qxb6603969aPrefix
import Derived.Test.Qxb6603969aPres
namespace Go.Proofs.Qxb6603969a
open Go.RowKit
theorem mem_encL {ls : List (List Int)} {l : List Int} (h : l ∈ ls) : ∀ x ∈ l, x ∈ encL ls := by
  induction ls with
  | nil => cases h
  | cons k r ih =>
    intro x hx
    rcases List.mem_cons.1 h with rfl | h
    · simp [encL, enc1, hx]
    · simp [encL, ih h x hx]
theorem len_encL {ls : List (List Int)} {l : List Int} (h : l ∈ ls) : l.length ≤ (encL ls).length := by
  induction ls with
  | nil => cases h
  | cons k r ih =>
    rcases List.mem_cons.1 h with rfl | h
    · simp [encL, enc1]; omega
    · have := ih h; simp [encL, enc1]; omega
theorem parse_any {s : ByteArray} {ls : List (List Int)} (hw : Wire s ls) (hs : s.size ≤ 255) (g off m c : Nat) (w : World) (hm : m = (pres ls).length)
    (hp : ∀ j x, (pres ls)[j]? = some x → w.cell? ⟨g, off + j, none⟩ = some (.int .u8 x)) :
    Calls Try.prog 14 #[.slice (some ⟨g, off, none⟩) m c] w fun e w' => ParseOut w (bytesOf s) e w' := by
  rw [hw.1]
  have hlen := wire_len hw
  by_cases hn : ls = []
  · subst hn
    have hm1 : m = 1 := by simpa [pres] using hm
    subst hm1
    exact parse_nil g off c w (hp 0 46 rfl)
  · have hpr : pres ls = presL ls := by simp [pres, hn]
    rw [hpr] at hm hp
    refine parse_walk ls hn (fun l hl => ⟨List.length_pos_iff.2 (hw.2 l hl), by have := len_encL hl; omega⟩) (fun l hl x hx => ?_) (by omega) g off m c w hm hp
    have := bytesOf_bd s x (by rw [hw.1]; simp [mem_encL hl x hx])
    exact this
/-- 'string(got)' gives the wire back. -/
theorem back_string {w : World} {b : Nat} {g cap : Nat} {s : ByteArray} (h : w.ownsRow b 5 1 (.slice (some ⟨g, 0, none⟩) (bytesOf s).length cap) (bytesOf s).length ((bytesOf s).map (Value.int .u8))) :
    (convert 22 9 (.slice (some ⟨g, 0, none⟩) (bytesOf s).length cap)).run Try.prog w = .ok (.string s) w := by
  have hl : (bytesOf s).length = s.data.toList.length := by rw [bytesOf_length]; rfl
  rw [hl]
  have := run_convert_bytes_back (P := Try.prog) w 22 9 5 ⟨g, 0, none⟩ cap s.data.toList Try.underlying22 Try.underlying5 Try.underlying9 (fun j hj => ?_)
  · simpa using this
  · refine h.cells (g := g) rfl j _ ?_
    rw [List.getElem?_map, bytesOf_get s j hj]
    rfl


set_option maxHeartbeats 4000000 in
set_option maxRecDepth 100000 in
theorem law_walk (a0 : ByteArray) (a1 : Option Addr) (len1 cap1 : Nat) (z1 : List Int) (w : World) (w0 : a0.size ≤ maxLen) (w1 : IsRow .u8 w a1 len1 cap1 z1) :
    Calls Try.prog 3 #[.string a0, .slice a1 len1 cap1] w fun e w' => e = .returned (.bool true) ∧ Below w.heap.size w w' := by
  have hlen : len1 ≤ maxLen := by
    rcases w1 with ⟨_, rfl, _, _⟩ | ⟨x, _, h1, h2, _⟩
    · exact Nat.zero_le _
    · exact Nat.le_trans h1 h2
  have hs0 := w0
  have hl0 := hlen
  unfold maxLen at hs0 hl0
  go_enter Try.func3, Try.ntmps3
  go_wp2_with fail
  refine (zzb8 a0 a1 len1 cap1 _ w0 hlen).mono ?_
  rintro e w' ⟨b, rfl, rfl⟩
  cases b
  · go_wp2
    go_ret
    exact ⟨rfl, Below.refl _ _⟩
  · by_cases hA : (1048576 : Int) < (a0.size : Int)
    · go_wp2
      go_ret
      exact ⟨rfl, Below.refl _ _⟩
    by_cases hB : (1048576 : Int) < (len1 : Int)
    · go_wp2
      go_ret
      exact ⟨rfl, Below.refl _ _⟩
    by_cases hC : (1048576 : Int) < (a0.size : Int) + (len1 : Int)
    · go_wp2
      go_ret
      exact ⟨rfl, Below.refl _ _⟩
    go_wp2_with fail
    refine (valid_any a0 _ w0).mono ?_
    rintro e w' ⟨b, rfl, rfl, hv⟩
    cases b
    · go_wp2
      go_ret
      exact ⟨rfl, Below.refl _ _⟩
    · obtain ⟨h255, ls, hw⟩ := hv rfl
      clear hv
      go_wp2_with fail
      refine (clone_any a1 len1 cap1 z1 _ w1 (by omega)).mono ?_
      rintro e w2 ⟨ao, rfl, hcb, hb2⟩
      go_wp2_with fail
      refine (name_any a0 _).mono ?_
      rintro e w3 ⟨rfl, hb3⟩
      have hcb3 := hcb.below hb3
      go_wp2_with fail
      refine (pres_walk a0 ao len1 (z1.take len1) ls _ h255 hw hcb3 (by omega)).mono ?_
      rintro e w4 ⟨v, rfl, happ⟩
      obtain ⟨g, cap, hv, hle, hmax, hge, hcells⟩ := happ.value (pres_ne ls)
      obtain ⟨m, hm⟩ : ∃ m, m = (pres ls).length := ⟨_, rfl⟩
      have hmpos : 0 < m := by rw [hm]; exact List.length_pos_iff.2 (pres_ne ls)
      have hmb : m ≤ 1100 := by have h1 := pres_len ls; have h2 := wire_len hw; omega
      rw [← hm] at hv hle
      subst hv
      have hcb4 := hcb3.below happ.below
      have hxl : (z1.take len1).length = len1 := hcb.1
      have HM : Hid (m = (pres ls).length) := hm
      have HCC : Hid (∀ j x, (z1.take len1 ++ pres ls)[j]? = some x → w4.cell? ⟨g, j, none⟩ = some (.int .u8 x)) := hcells
      have HX : Hid ((z1.take len1).length = len1) := hxl
      have hb4 := happ.below
      clear hm hcells hxl happ hcb hcb3
      go_wp2_with fail
      refine (prefix_any g cap (len1 + m) ao len1 (z1.take len1) (pres ls) _ hcb4 (by omega) (by omega) HCC.out).mono ?_
      rintro e w5 ⟨rfl, hb5⟩
      go_wp2_with fail
      have hp5 : ∀ j x, (pres ls)[j]? = some x → w5.cell? ⟨g, len1 + j, none⟩ = some (.int .u8 x) := by
        intro j x hj
        have h1 := HCC.out (len1 + j) x (by rw [List.getElem?_append_right (by rw [HX.out]; omega), HX.out, Nat.add_sub_cancel_left]; exact hj)
        exact (hb5.cell (p := ⟨g, len1 + j, none⟩) (World.block_lt_of_cell? _ _ h1)).trans h1
      refine (parse_any hw h255 g len1 m (cap - len1) _ HM.out hp5).mono ?_
      rintro e w6 ⟨g6, cap6, rfl, hown6, hb6⟩
      have hback := back_string hown6
      clear hp5 hown6
      go_wp2
      go_ret
      exact ⟨rfl, (((hb2.trans (hb3.mono hb2.size)).trans (hb4.mono (Nat.le_trans hb2.size hb3.size))).trans (hb5.mono (Nat.le_trans hb2.size (Nat.le_trans hb3.size hb4.size)))).trans (hb6.mono (Nat.le_trans hb2.size (Nat.le_trans hb3.size (Nat.le_trans hb4.size hb5.size))))⟩
end Go.Proofs.Qxb6603969a
