import Derived.Test.Qxb6603969aKeyD
import Derived.Test.Qxb6603969aKeyE
import Derived.Test.Qxb6603969aValid
import Derived.Test.Qxb6603969aPrefix
namespace Go.Proofs.Qxb6603969a
open Go.RowKit

theorem zzb17 (s : ByteArray) (ao : Option Addr) (n c : Nat) (w : World) (hs : s.size ≤ maxLen) (hn : n ≤ maxLen) :
    Calls Try.prog 17 #[.string s, .slice ao n c] w fun e w' => ZOut w e w' := by
  unfold maxLen at hs hn
  go_enter Try.func17, Try.ntmps17
  go_wp2
  all_goals
    go_ret
    exact zout_mk _

theorem prefix_none (vo : Option Addr) (N cap : Nat) (ao : Option Addr) (w : World) :
    Calls Try.prog 13 #[.slice vo N cap, .slice ao 0 0] w fun e w' => e = .returned (.bool true) ∧ Below w.heap.size w w' := by
  go_enter Try.func13, Try.ntmps13
  go_wp2
  go_loop [5] (fun i => i = .int .i64 0) (fun _ => 0)
  case atStart => rfl
  case round =>
    subst hrel
    go_wp2
    go_ret
    exact ⟨rfl, Below.refl _ _⟩
theorem decode_nil (po : Option Addr) (c : Nat) (w : World) :
    Calls Try.prog 19 #[.slice po 0 c] w fun e w' => DecOut [] w e w' := by
  have hq := fun w => run_neq_slice_nil_any (P := Try.prog) w 22 5 none 0 0 0 0 Try.underlying22
  go_enter Try.func19, Try.ntmps19
  go_wp2
  go_loop [4, 5, 6] (fun l c i => l = .slice none 0 0 ∧ c = .slice none 0 0 ∧ i = .int .i64 0) (fun _ _ _ => 0)
  case atStart => exact ⟨rfl, rfl, rfl⟩
  case round =>
    obtain ⟨rfl, rfl, rfl⟩ := hrel
    go_wp2
    go_ret2
    exact ⟨_, [], rfl, World.ownsRow_nil _ _ _ _, ⟨rfl, fun j v h => by simp at h⟩, Below.refl _ _⟩
/-- The value of an appended slice, whatever was appended. -/
theorem App.form {W : World} {ao : Option Addr} {n : Nat} {xs : List Int} {w : World} {v : Value} {ys : List Int} (hc : CB W ao n xs) (h : App W ao n xs w v ys) :
    ∃ vo cap, v = .slice vo (n + ys.length) cap ∧ n + ys.length ≤ cap ∧ cap ≤ maxLen + n ∧ ((vo = none ∧ cap = 0) ∨ ∃ g, vo = some ⟨g, 0, none⟩ ∧ ∀ (j : Nat) (x : Int), (xs ++ ys)[j]? = some x → w.cell? ⟨g, j, none⟩ = some (.int .u8 x)) := by
  rcases h.val with ⟨rfl, rfl⟩ | hown
  · refine ⟨ao, n, rfl, Nat.le_refl _, by omega, ?_⟩
    have hc2 := hc.below h.below
    rcases hc2.2 with ⟨h1, h2⟩ | ⟨g, h1, h2⟩
    · exact .inl ⟨h1, h2⟩
    · refine .inr ⟨g, h1, fun j x hj => ?_⟩
      simp at hj
      simp only [World.cell?, h2]
      simpa using hj
  · have hcells := fun g hg => hown.cells (g := g) hg
    obtain ⟨h1, h2⟩ := hown
    rcases h2 with ⟨rfl, h2⟩ | ⟨g, cap, cur, h3, h4, h5, h6, h7, _⟩
    · exact ⟨none, 0, by rw [h2], by omega, by omega, .inl ⟨rfl, rfl⟩⟩
    · refine ⟨_, cap, h3, h6, by omega, .inr ⟨g, rfl, fun j x hj => ?_⟩⟩
      have := hcells g (by rw [h3]; rfl) j (.int .u8 x) (by rw [List.getElem?_map, hj]; rfl)
      rwa [addr_add0] at this

theorem prefix_gen (vo : Option Addr) (cap N : Nat) (ao : Option Addr) (n : Nat) (xs zs : List Int) (w : World) (hb : CB w ao n xs) (hN : N ≤ 9007199254740992) (hnN : n ≤ N) (hle : N ≤ cap)
    (hcells : (vo = none ∧ cap = 0) ∨ ∃ g, vo = some ⟨g, 0, none⟩ ∧ ∀ (j : Nat) (x : Int), (xs ++ zs)[j]? = some x → w.cell? ⟨g, j, none⟩ = some (.int .u8 x)) :
    Calls Try.prog 13 #[.slice vo N cap, .slice ao n n] w fun e w' => e = .returned (.bool true) ∧ Below w.heap.size w w' := by
  rcases hcells with ⟨rfl, rfl⟩ | ⟨g, rfl, hcells⟩
  · obtain rfl : n = 0 := by omega
    exact prefix_none none N 0 ao w
  · exact prefix_any g cap N ao n xs zs w hb hN hnN hcells

theorem mem_encL' {ls : List (List Int)} {l : List Int} (h : l ∈ ls) : (∀ x ∈ l, x ∈ encL ls) ∧ l.length ≤ (encL ls).length := by
  induction ls with
  | nil => cases h
  | cons k r ih =>
    rcases List.mem_cons.1 h with rfl | h
    · exact ⟨fun x hx => by simp [encL, enc1, hx], by simp [encL, enc1]; omega⟩
    · obtain ⟨h1, h2⟩ := ih h
      exact ⟨fun x hx => by simp [encL, h1 x hx], by simp [encL, enc1]; omega⟩
theorem decode_any {s : ByteArray} {ls : List (List Int)} (hw : Wire s ls) (hs : s.size ≤ 255) (g off m c : Nat) (w : World) (hm : m = (keyL ls.reverse).length)
    (hp : ∀ j x, (keyL ls.reverse)[j]? = some x → w.cell? ⟨g, off + j, none⟩ = some (.int .u8 x)) :
    Calls Try.prog 19 #[.slice (some ⟨g, off, none⟩) m c] w fun e w' => DecOut ls.reverse w e w' := by
  have hlen := wire_len hw
  have hfew := labels_few hw
  refine decode_walk ls.reverse (fun l hl => ⟨List.length_pos_iff.2 (hw.2 l (by simpa using hl)), by have := (mem_encL' (ls := ls) (by simpa using hl)).2; omega⟩) (fun l hl x hx => ?_) (by rw [encL_rev]; omega) (by simp; omega) g off m c w hm hp
  exact bytesOf_bd s x (by rw [hw.1]; simp [(mem_encL' (ls := ls) (by simpa using hl)).1 x hx])

theorem lowerOf_same (c : Int) (h0 : 0 ≤ c) (h1 : c ≤ 255) (w : World) :
    Calls Try.prog 21 #[.int .u8 c] w fun e w' => e = .returned (.int .u8 (low c)) ∧ w' = w := (lowerOf_any c h0 h1 w).mono fun _ _ h => ⟨h.1, h.2.symm⟩
/-- 'got[i]' is the i-th label from the right in lower case; 'want' holds the labels from the left. -/
def Pairs (ls : List (List Int)) (gl gw : Nat) (w : World) : Prop :=
  ∀ i, i < ls.length → ∃ (l : List Int) (t : ByteArray) (gi ci : Nat), l ∈ ls ∧ l.length ≤ ci ∧ w.cell? ⟨gl, i, none⟩ = some (.slice (some ⟨gi, 0, none⟩) l.length ci) ∧ w.cell? ⟨gw, ls.length - 1 - i, none⟩ = some (.string t) ∧ bytesOf t = l ∧
    ∀ (j : Nat) (x : Int), l[j]? = some x → w.cell? ⟨gi, j, none⟩ = some (.int .u8 (low x))
theorem pairs_of {ls : List (List Int)} {gl gw lc wc : Nat} {w5 w6 w7 : World} {vals : List Value} {ts : List ByteArray} {lv : Value} (hlo : w6.ownsRow w5.heap.size 22 1 (.slice (some ⟨gl, 0, none⟩) ls.length lc) ls.length vals) (hrows : Rows8 w6 w5.heap.size ls.reverse vals lv (.slice none 0 0)) (hb7 : Below w6.heap.size w6 w7)
    (hwo : w7.ownsRow w6.heap.size 9 1 (.slice (some ⟨gw, 0, none⟩) ls.length wc) ls.length (ts.map Value.string)) (hts : ts.map bytesOf = ls) : Pairs ls gl gw w7 := by
  intro i hi
  have hvl : vals.length = ls.length := by have := hrows.1; simpa using this
  have hv : vals[i]? = some (vals[i]'(by omega)) := List.getElem?_eq_getElem _
  obtain ⟨l, h1, h2, h3, _, _⟩ := hrows.2 i _ hv
  obtain ⟨ao, ci, hf, hle, _, hp⟩ := own_form h3
  obtain ⟨gi, rfl⟩ := hp (List.length_pos_iff.2 h2)
  have h1' : ls[ls.length - 1 - i]? = some l := by
    rw [List.getElem?_reverse hi] at h1; exact h1
  have hlm : l ∈ ls := List.mem_of_getElem? h1'
  have htl : ts.length = ls.length := by rw [← hts]; simp
  have ht : ts[ls.length - 1 - i]? = some (ts[ls.length - 1 - i]'(by omega)) := List.getElem?_eq_getElem _
  have hbt : bytesOf (ts[ls.length - 1 - i]'(by omega)) = l := by
    have : (ts.map bytesOf)[ls.length - 1 - i]? = some l := by rw [hts]; exact h1'
    rw [List.getElem?_map, ht] at this
    simpa using this
  refine ⟨l, _, gi, ci, hlm, hle, ?_, ?_, hbt, ?_⟩
  · have c := hlo.cells (g := gl) rfl i _ hv
    rw [addr_add0] at c
    rw [hb7.cell (World.block_lt_of_cell? _ _ c), c, hf]
  · have c := hwo.cells (g := gw) rfl (ls.length - 1 - i) (.string (ts[ls.length - 1 - i]'(by omega))) (by rw [List.getElem?_map, ht]; rfl)
    rwa [addr_add0] at c
  · intro j x hj
    rw [hf] at h3
    have c := h3.cells (g := gi) rfl j (.int .u8 (low x)) (by rw [List.getElem?_map, List.getElem?_map, hj]; rfl)
    rw [addr_add0] at c
    exact (hb7.cell (World.block_lt_of_cell? _ _ c)).trans c

set_option maxHeartbeats 4000000 in
set_option maxRecDepth 100000 in
theorem law5_walk (a0 : ByteArray) (a1 : Option Addr) (len1 cap1 : Nat) (z1 : List Int) (w : World) (w0 : a0.size ≤ maxLen) (w1 : IsRow .u8 w a1 len1 cap1 z1) :
    Calls Try.prog 5 #[.string a0, .slice a1 len1 cap1] w fun e w' => e = .returned (.bool true) ∧ Below w.heap.size w w' := by
  have hlen : len1 ≤ maxLen := by
    rcases w1 with ⟨_, rfl, _, _⟩ | ⟨x, _, h1, h2, _⟩
    · exact Nat.zero_le _
    · exact Nat.le_trans h1 h2
  have hs0 := w0
  have hl0 := hlen
  unfold maxLen at hs0 hl0
  go_enter Try.func5, Try.ntmps5
  go_wp2_with fail
  refine (zzb17 a0 a1 len1 cap1 _ w0 hlen).mono ?_
  rintro e w' ⟨b, rfl, rfl⟩
  cases b
  · go_wp2
    go_ret
    exact ⟨rfl, Below.refl _ _⟩
  · by_cases hA : (1048576 : Int) < (a0.size : Int)
    · go_wp2
      go_ret
      exact ⟨rfl, Below.refl _ _⟩
    by_cases hB : (1048576 : Int) < (len1 : Int)
    · go_wp2
      go_ret
      exact ⟨rfl, Below.refl _ _⟩
    by_cases hC : (1048576 : Int) < (a0.size : Int) + (len1 : Int)
    · go_wp2
      go_ret
      exact ⟨rfl, Below.refl _ _⟩
    go_wp2_with fail
    refine (valid_any a0 _ w0).mono ?_
    rintro e w' ⟨b, rfl, rfl, hv⟩
    cases b
    · go_wp2
      go_ret
      exact ⟨rfl, Below.refl _ _⟩
    · obtain ⟨h255, ls, hw⟩ := hv rfl
      clear hv
      go_wp2_with fail
      refine (clone_any a1 len1 cap1 z1 _ w1 (by omega)).mono ?_
      rintro e w2 ⟨ao, rfl, hcb, hb2⟩
      go_wp2_with fail
      refine (name_any a0 _).mono ?_
      rintro e w3 ⟨rfl, hb3⟩
      have hcb3 := hcb.below hb3
      go_wp2_with fail
      refine (key_walk a0 ao len1 (z1.take len1) ls _ h255 hw hcb3 (by omega)).mono ?_
      rintro e w4 ⟨v, rfl, happ⟩
      obtain ⟨vo, cap, hv, hle, hmax, hcells⟩ := happ.form hcb3
      obtain ⟨m, hm⟩ : ∃ m, m = (keyL ls.reverse).length := ⟨_, rfl⟩
      have hmb : m ≤ 1100 := by have h1 := keyL_len ls.reverse; have h2 := wire_len hw; have h3 := encL_rev ls; omega
      rw [← hm] at hv hle
      subst hv
      have hcb4 := hcb3.below happ.below
      have hb4 := happ.below
      have hxl : (z1.take len1).length = len1 := hcb.1
      unfold maxLen at hmax
      have HM : Hid (m = (keyL ls.reverse).length) := hm
      have HCC : Hid ((vo = none ∧ cap = 0) ∨ ∃ g, vo = some ⟨g, 0, none⟩ ∧ ∀ (j : Nat) (x : Int), (z1.take len1 ++ keyL ls.reverse)[j]? = some x → w4.cell? ⟨g, j, none⟩ = some (.int .u8 x)) := hcells
      have HX : Hid ((z1.take len1).length = len1) := hxl
      clear hm hcells hxl happ hcb hcb3
      go_wp2_with fail
      refine (prefix_gen vo cap (len1 + m) ao len1 (z1.take len1) (keyL ls.reverse) _ hcb4 (by omega) (by omega) hle HCC.out).mono ?_
      rintro e w5 ⟨rfl, hb5⟩
      have hbel5 : Below w.heap.size w w5 := ((hb2.trans (hb3.mono hb2.size)).trans (hb4.mono (Nat.le_trans hb2.size hb3.size))).trans (hb5.mono (Nat.le_trans hb2.size (Nat.le_trans hb3.size hb4.size)))
      by_cases hm0 : m = 0
      · subst hm0
        obtain rfl : ls = [] := by
          have := HM.out
          cases ls with
          | nil => rfl
          | cons l r => simp [keyL_append, keyL] at this
        by_cases hcl : len1 = cap
        · subst hcl
          rcases HCC.out with ⟨rfl, rfl⟩ | ⟨g, rfl, _⟩
          all_goals
            go_wp2_with (first
              | (go_at_call 19; refine (decode_nil _ _ _).mono ?_; rintro e w6 ⟨lv, vals, rfl, hlo, _, hb6⟩; obtain ⟨lo, lc, hlf, _, _, _⟩ := own_form hlo; subst hlf)
              | (go_at_call 20; refine (wirelabels_any a0 [] _ h255 hw).mono ?_; rintro e w7 ⟨wv, ts, rfl, _, hwo, hb7⟩; obtain ⟨wo, wc, hwf, _, _, _⟩ := own_form hwo; subst hwf))
            refine wp_loop_rounds 1 ?_
            rw [rounds_succ]
            go_wp2
            go_ret
            exact ⟨rfl, (hbel5.trans (hb6.mono hbel5.size)).trans (hb7.mono (Nat.le_trans hbel5.size hb6.size))⟩
        · obtain ⟨g, rfl, _⟩ : ∃ g, vo = some ⟨g, 0, none⟩ ∧ True := by
            rcases HCC.out with ⟨_, h⟩ | ⟨g, h, _⟩
            · omega
            · exact ⟨g, h, trivial⟩
          go_wp2_with (first
            | (go_at_call 19; refine (decode_nil _ _ _).mono ?_; rintro e w6 ⟨lv, vals, rfl, hlo, _, hb6⟩; obtain ⟨lo, lc, hlf, _, _, _⟩ := own_form hlo; subst hlf)
            | (go_at_call 20; refine (wirelabels_any a0 [] _ h255 hw).mono ?_; rintro e w7 ⟨wv, ts, rfl, _, hwo, hb7⟩; obtain ⟨wo, wc, hwf, _, _, _⟩ := own_form hwo; subst hwf))
          refine wp_loop_rounds 1 ?_
          rw [rounds_succ]
          go_wp2
          go_ret
          exact ⟨rfl, (hbel5.trans (hb6.mono hbel5.size)).trans (hb7.mono (Nat.le_trans hbel5.size hb6.size))⟩
      · have hcl : len1 < cap := by omega
        obtain ⟨g, rfl, hgc⟩ : ∃ g, vo = some ⟨g, 0, none⟩ ∧ ∀ (j : Nat) (x : Int), (z1.take len1 ++ keyL ls.reverse)[j]? = some x → w4.cell? ⟨g, j, none⟩ = some (.int .u8 x) := by
          rcases HCC.out with ⟨_, h⟩ | h
          · omega
          · exact h
        have hp5 : ∀ j x, (keyL ls.reverse)[j]? = some x → w5.cell? ⟨g, len1 + j, none⟩ = some (.int .u8 x) := by
          intro j x hj
          have h1 := hgc (len1 + j) x (by rw [List.getElem?_append_right (by rw [HX.out]; omega), HX.out, Nat.add_sub_cancel_left]; exact hj)
          exact (hb5.cell (p := ⟨g, len1 + j, none⟩) (World.block_lt_of_cell? _ _ h1)).trans h1
        have hdec := decode_any hw h255 g len1 m (cap - len1) w5 HM.out hp5
        have HD : Hid (Calls Try.prog 19 #[.slice (some ⟨g, len1, none⟩) m (cap - len1)] w5 fun e w' => DecOut ls.reverse w5 e w') := hdec
        clear hgc hp5 HCC hdec
        go_wp2_with (first
            | (go_at_call 19; refine Calls.mono HD.out ?_; rintro e w6 ⟨lv, vals, rfl, hlo, hrows, hb6⟩; obtain ⟨lo, lc, hlf, _, _, hlp⟩ := own_form hlo; subst hlf)
            | (go_at_call 20; refine (wirelabels_any a0 ls _ h255 hw).mono ?_; rintro e w7 ⟨wv, ts, rfl, hts, hwo, hb7⟩; obtain ⟨wo, wc, hwf, _, _, hwp⟩ := own_form hwo; subst hwf))
        have hpos : 0 < ls.length := by
          rcases Nat.eq_zero_or_pos ls.length with h | h
          · exfalso; apply hm0; rw [HM.out, List.eq_nil_of_length_eq_zero h]; rfl
          · exact h
        obtain ⟨gl, rfl⟩ := hlp (by simpa using hpos)
        obtain ⟨gw, rfl⟩ := hwp hpos
        have HA : Hid (Pairs ls gl gw w7) := pairs_of (by simpa using hlo) hrows hb7 hwo hts
        have hbel7 : Below w.heap.size w w7 := (hbel5.trans (hb6.mono hbel5.size)).trans (hb7.mono (Nat.le_trans hbel5.size hb6.size))
        have hfew := labels_few hw
        have HBY : Hid (∀ l ∈ ls, ∀ x ∈ l, 0 ≤ x ∧ x ≤ 255) := fun l hl x hx => bytesOf_bd a0 x (by rw [hw.1]; simp [(mem_encL' hl).1 x hx])
        clear hlo hrows hb7 hwo hts hlp hwp hb6 HD HM HX hb5 hb4 hb3 hb2 hcb4 hbel5
        go_loopw [9] (fun i wx => ∃ k : Nat, k ≤ ls.length ∧ i = .int .i64 k ∧ ∃ q, wx = w7.drewN q) (fun i _ => ls.length - (intOf i).toNat)
        case atStart => exact ⟨0, Nat.zero_le _, rfl, 0, rfl⟩
        case round =>
          obtain ⟨k, hk, rfl, q, rfl⟩ := hrel
          by_cases hlt : k < ls.length
          · obtain ⟨l, t, gi, ci, hlm, hll, c1, c2, hbt, hcs⟩ := HA.out k hlt
            have htl : (t.size : Int) = (l.length : Int) := by have := bytesOf_length t; rw [hbt] at this; omega
            have hl255 : l.length ≤ 255 := by have h1 := (mem_encL' hlm).2; have h2 := wire_len hw; omega
            have htb : ((l.length : Int) != (t.size : Int)) = false := by rw [htl]; simp
            have HT : Hid ((t.size : Int) = (l.length : Int)) := htl
            have HBT : Hid (bytesOf t = l) := hbt
            have HCS : Hid (∀ (j : Nat) (x : Int), l[j]? = some x → w7.cell? ⟨gi, j, none⟩ = some (.int .u8 (low x))) := hcs
            clear htl hbt hcs
            go_wp2
            go_loopw [12] (fun i wx => ∃ j : Nat, j ≤ l.length ∧ i = .int .i64 j ∧ ∃ q, wx = w7.drewN q) (fun i _ => l.length - (intOf i).toNat)
            case atStart => exact ⟨0, Nat.zero_le _, rfl, _, rfl⟩
            case round =>
              obtain ⟨j, hj, rfl, q', rfl⟩ := hrel
              by_cases hlj : j < l.length
              · obtain ⟨x, hx⟩ : ∃ x, l[j]? = some x := ⟨_, List.getElem?_eq_getElem hlj⟩
                have hxb := HBY.out l hlm x (List.mem_of_getElem? hx)
                have hjt : j < t.size := by have := HT.out; omega
                have hjx : (t[j].toNat : Int) = x := by have h1 := bytesOf_get t j hjt; rw [HBT.out, hx] at h1; simpa using h1.symm
                have c3 := HCS.out j x hx
                have i1 : (j : Int) < (l.length : Int) := by omega
                have i2 : (j : Int) < (t.size : Int) := by omega
                have i0 : (0 : Int) ≤ (j : Int) := by omega
                have hxl := lowerOf_same x hxb.1 hxb.2
                rw [← hjx] at hxl
                have HLX : Hid (∀ w, Calls Try.prog 21 #[.int .u8 (t[j].toNat : Int)] w fun e w' => e = .returned (.int .u8 (low x)) ∧ w' = w) := by
                  intro w; have := hxl w; rw [hjx] at this ⊢; exact this
                clear hx hxl hjx
                go_wp2_with fail
                go_quiet ((go_at_call 21; exact (HLX.out _).mono fun e w2 h => ⟨h.1, _, h.2⟩))
                go_wp2
                go_roundw
                case rel => exact ⟨j + 1, by omega, by go_num, _, rfl⟩
                case measure => simp [intOf]; omega
              · go_wp2
                go_roundw
                case rel => exact ⟨k + 1, by omega, by go_num, _, rfl⟩
                case measure => simp [intOf]; omega
          · go_wp2
            go_ret
            exact ⟨rfl, below_drewN hbel7 _⟩
end Go.Proofs.Qxb6603969a
