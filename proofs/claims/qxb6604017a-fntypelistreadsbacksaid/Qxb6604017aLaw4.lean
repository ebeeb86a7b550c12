import Derived.Test.Qxb6604017aPieces
import Derived.Test.Qxb6604017aLaw5
namespace Go.Proofs.Qxb6604017a
open Go.RowKit
theorem keep3 {w w' : World} {a b c : Addr} {x y z : Value} (hb : Below w.heap.size w w') (h : w.cell? a = some x ∧ w.cell? b = some y ∧ w.cell? c = some z) : w'.cell? a = some x ∧ w'.cell? b = some y ∧ w'.cell? c = some z :=
  ⟨(hb.cell (World.block_lt_of_cell? _ _ h.1)).trans h.1, (hb.cell (World.block_lt_of_cell? _ _ h.2.1)).trans h.2.1, (hb.cell (World.block_lt_of_cell? _ _ h.2.2)).trans h.2.2⟩
theorem zztype_any (br g n : Nat) (ts : List K3) (w : World) (hn : n ≤ 65536) (hn0 : 0 < n) (hl : ts.length = n) (hsm : ∀ (j : Nat) (t : K3), ts[j]? = some t → t.ty.size ≤ 1048576 ∧ t.rel.size ≤ 1048576) (h : KRow w g n ts n) (hr : w.cell? ⟨br, 1, none⟩ = some (.slice (some ⟨g, 0, none⟩) n n)) :
    Calls Try.prog 14 #[.pointer (some ⟨br, 0, none⟩)] w fun e w' => e = .returned (.string ⟨(text ts).toArray⟩) ∧ Below w.heap.size w w' := by
  have HK : Hid (KRow w g n ts n) := h
  have HLn : Hid (ts.length = n) := hl
  have HSM : Hid (∀ (j : Nat) (t : K3), ts[j]? = some t → t.ty.size ≤ 1048576 ∧ t.rel.size ≤ 1048576) := hsm
  have HR : Hid (w.cell? ⟨br, 1, none⟩ = some (.slice (some ⟨g, 0, none⟩) n n)) := hr
  clear h hl hsm hr
  go_enter Try.func14, Try.ntmps14
  go_wp2_with fail
  refine (typelist_any br g n ts _ hn hn0 HLn.out HSM.out HK.out HR.out).mono ?_
  rintro e w2 ⟨rfl, hb⟩
  go_wp2
  go_ret
  exact ⟨rfl, hb⟩

set_option maxHeartbeats 4000000 in
set_option maxRecDepth 100000 in
theorem law_list (s : ByteArray) (a : Option Addr) (len cap : Nat) (ts : List K3) (w : World) (hs : s.size ≤ maxLen) (h : STs w a len cap ts) :
    Calls Try.prog 4 #[.string s, .slice a len cap] w fun e w' => e = .returned (.bool true) ∧ Below w.heap.size w w' := by
  have HS : Hid (STs w a len cap ts) := h
  have hlc := h.2.1
  have hcm := h.2.2.1
  have hs' := hs
  unfold maxLen at hcm hs'
  clear h
  go_enter Try.func4, Try.ntmps4
  go_wp2_with fail
  refine (zzs10 s a len cap ts _ hs HS.out).mono ?_
  rintro e w' ⟨b, rfl, rfl, hb⟩
  cases b
  · go_wp2
    go_ret
    exact ⟨rfl, Below.refl _ _⟩
  have HSm : Hid (Small ts ts.length) := hb rfl
  clear hb
  by_cases c1 : (1048576 : Int) < (s.size : Int)
  · go_wp2
    go_ret
    exact ⟨rfl, Below.refl _ _⟩
  by_cases c3 : (65536 : Int) < (len : Int)
  · go_wp2
    go_ret
    exact ⟨rfl, Below.refl _ _⟩
  go_wp2_with fail
  refine (stbytes_any a len cap ts _ (by omega) HS.out).mono ?_
  rintro e w1 ⟨nb, q, rfl, rfl⟩
  have HST : Hid (STs (w.drewN q) a len cap ts) := HS.out.below (below_drewN (Below.refl _ w) q)
  go_wp2_with (go_at_call 12; refine (printable_any a len cap ts _ HST.out).mono ?_; rintro e w2 ⟨b, rfl, rfl, hb⟩; cases b)
  · go_ret
    exact ⟨rfl, below_drewN (Below.refl _ _) _⟩
  · go_ret
    exact ⟨rfl, below_drewN (Below.refl _ _) _⟩
  obtain ⟨hpos, hcl⟩ := hb (by trivial)
  have hL : ts.length = len := HS.out.1
  rw [hL] at hpos
  have HCl : Hid (Clean ts ts.length) := hcl
  have HLn : Hid (ts.length = len) := hL
  clear hb hcl hL
  obtain ⟨b, off, rfl, hcs⟩ : ∃ b off, a = some ⟨b, off, none⟩ ∧ ∀ (i : Nat) (t : K3), ts[i]? = some t →
      w.cell? ⟨b, off + i * 3, none⟩ = some (.string t.ty) ∧ w.cell? ⟨b, off + i * 3 + 1, none⟩ = some (.bool t.wild) ∧ w.cell? ⟨b, off + i * 3 + 2, none⟩ = some (.string t.rel) ∧ t.ty.size ≤ maxLen ∧ t.rel.size ≤ maxLen := by
    rcases HS.out.2.2.2 with ⟨h0, _⟩ | h
    · omega
    · exact h
  have HCS : Hid (∀ (i : Nat) (t : K3), ts[i]? = some t →
      w.cell? ⟨b, off + i * 3, none⟩ = some (.string t.ty) ∧ w.cell? ⟨b, off + i * 3 + 1, none⟩ = some (.bool t.wild) ∧ w.cell? ⟨b, off + i * 3 + 2, none⟩ = some (.string t.rel) ∧ t.ty.size ≤ maxLen ∧ t.rel.size ≤ maxLen) := hcs
  clear hcs
  have HSM : Hid (∀ (j : Nat) (t : K3), ts[j]? = some t → t.ty.size ≤ 1048576 ∧ t.rel.size ≤ 1048576) := fun j t ht => HSm.out j t (List.getElem?_eq_some_iff.1 ht).1 ht
  refine (toschema_any b off len cap ts _ (by omega) HST.out).mono ?_
  rintro e w2 ⟨ao, rfl, hao, hb2⟩
  obtain ⟨g, rfl, hkr, hge⟩ := hao hpos
  clear hao
  have HKR : Hid (KRow w2 g len ts len) := hkr
  clear hkr
  go_wp2_with (go_at_call 14; refine (zztype_any w2.heap.size g len ts _ (by omega) hpos HLn.out HSM.out (krow_below HKR.out ((Below.refl _ _).alloc (Nat.le_refl _) _)) (by simp [go_sem])).mono ?_; rintro e w3 ⟨rfl, hb3⟩)
  have hb4 : Below w.heap.size w w3 := ((below_drewN (Below.refl _ w) q).trans (hb2.mono (Nat.le_refl _))).trans ((((Below.refl _ _).alloc (Nat.le_refl _) _).trans (hb3.mono (by simp))).mono hb2.size)
  clear hb3
  have hbw : b < w.heap.size := by
    obtain ⟨t, ht⟩ : ∃ t, ts[0]? = some t := ⟨_, List.getElem?_eq_getElem (by rw [HLn.out]; exact hpos)⟩
    exact World.block_lt_of_cell? _ _ (HCS.out 0 t ht).1
  have hol : (text ts).length ≤ 137441050656768 := Nat.le_trans (text_len ts HSM.out) (by rw [HLn.out]; omega)
  obtain ⟨o, ho⟩ : ∃ o : ByteArray, o = ⟨(text ts).toArray⟩ := ⟨_, rfl⟩
  rw [← ho]
  have HO : Hid (o.data.toList = text ts) := (by rw [ho] : o.data.toList = text ts)
  have hos : o.size ≤ 137441050656768 := by rw [ho]; simpa [ByteArray.size] using hol
  clear ho hol
  obtain ⟨W3, hW3⟩ : ∃ W3, W3 = w3 := ⟨_, rfl⟩
  subst hW3
  go_loopw [7, 8, 9] (fun u7 u8 u9 wr => ∃ k st j L : Nat, u7 = .int .i64 k ∧ u8 = .int .i64 st ∧ u9 = .int .i64 ((st + j : Nat) : Int) ∧ k < len ∧ j ≤ L ∧ Inv o ts k st L ∧ Below w.heap.size w wr) (fun _ _ u9 _ => o.size - (intOf u9).toNat)
  case atStart =>
    obtain ⟨L, hI⟩ := inv_zero HO.out (by rw [HLn.out]; exact hpos)
    exact ⟨0, 0, 0, L, rfl, rfl, rfl, hpos, Nat.zero_le _, hI, hb4⟩
  case round =>
    clear hb4 HST HKR hb2 hge
    obtain ⟨k, st, j, L, rfl, rfl, rfl, hk, hj, hI, hbel⟩ := hrel
    obtain ⟨t, ht⟩ : ∃ t, ts[k]? = some t := ⟨_, List.getElem?_eq_getElem (by rw [HLn.out]; exact hk)⟩
    obtain ⟨x1, x2, x3, _, _⟩ := HCS.out k t ht
    have y1 := (hbel.cell (p := ⟨b, off + k * 3, none⟩) hbw).trans x1
    have y2 := (hbel.cell (p := ⟨b, off + k * 3 + 1, none⟩) hbw).trans x2
    have y3 := (hbel.cell (p := ⟨b, off + k * 3 + 2, none⟩) hbw).trans x3
    have hc := HCl.out k t (by rw [HLn.out]; exact hk) ht
    have hsz := inv_size hI
    have hpc := inv_piece hI ht
    have HC : Hid (Clean1 t) := hc
    have HPC : Hid ((o.extract st (st + L)).data.toList = t.ty.data.toList ++ suf t) := hpc
    have HI : Hid (Inv o ts k st L) := hI
    have HT : Hid (ts[k]? = some t) := ht
    have hps : (o.extract st (st + L)).size ≤ maxLen := by unfold maxLen; simp [ByteArray.size_extract]; omega
    have HK9 : Hid (∀ W, Calls Try.prog 9 #[.string (o.extract st (st + L)), .agg #[.string t.ty, .bool t.wild, .string t.rel]] W fun e w' => e = .returned (.bool true) ∧ Below W.heap.size W w') := fun W => kind_any _ t hps hpc hc W
    clear x1 x2 x3 hc hpc hI ht hps
    have ik0 : (0 : Int) ≤ (k : Int) := by omega
    have ik1 : (k : Int) < (len : Int) := by omega
    have iz0 : (0 : Int) ≤ (st : Int) := by omega
    have idk : decide ((len : Int) ≤ (k : Int)) = false := decide_eq_false (by omega)
    have is1 : (st : Int) ≤ (st : Int) + (j : Int) := by omega
    have is2 : (st : Int) + (j : Int) ≤ (o.size : Int) := by omega
    have is3 : (st : Int) ≤ (o.size : Int) := by omega
    have is4 : ((st : Int) + (j : Int)).toNat = st + j := by omega
    have is5 : st ≤ o.size := by omega
    have idn : decide (len ≤ k) = false := decide_eq_false (by omega)
    rcases Nat.lt_or_ge j L with hjl | hjl
    · have hne := inv_within HI.out HT.out HC.out hjl
      have hneb : ((o.extract (st + j) (st + j + 3)).toList == [32, 124, 32]) = false := beq_eq_false_iff_ne.2 hne
      clear hne
      by_cases h3 : st + j + 3 ≤ o.size
      · go_wp2_with fail
        go_roundw
        case rel => exact ⟨k, st, j + 1, L, rfl, rfl, by go_num, hk, hjl, HI.out, hbel⟩
        case measure => simp [intOf]; omega
      · go_wp2_with fail
        go_roundw
        case rel => exact ⟨k, st, j + 1, L, rfl, rfl, by go_num, hk, hjl, HI.out, hbel⟩
        case measure => simp [intOf]; omega
    · obtain rfl : j = L := by omega
      by_cases hlast : k + 1 < len
      · obtain ⟨hnx, h3, heq⟩ := inv_next HI.out (by rw [HLn.out]; exact hlast)
        have heqb : ((o.extract (st + j) (st + j + 3)).toList == [32, 124, 32]) = true := beq_iff_eq.2 heq
        have HNX : Hid (∃ L', Inv o ts (k + 1) (st + j + 3) L') := hnx
        clear heq hnx
        go_wp2_with fail
        go_region_held3 (fun w' => w'.cell? ⟨b, off + k * 3, none⟩ = some (.string t.ty) ∧ w'.cell? ⟨b, off + k * 3 + 1, none⟩ = some (.bool t.wild) ∧ w'.cell? ⟨b, off + k * 3 + 2, none⟩ = some (.string t.rel)) (first | (simp [go_sem, *]; done) | exact keep3 hb5 (by simp [go_sem, *]))
          ((go_at_call 9; refine (HK9.out _).mono ?_; rintro e w5 ⟨rfl, hb5⟩))
        all_goals
          go_wp2_with fail
          go_roundw
          case rel =>
            obtain ⟨L', hI'⟩ := HNX.out
            exact ⟨k + 1, st + j + 3, 0, L', by go_num, by go_num, by go_num, hlast, Nat.zero_le _, hI', hbel.drew.trans (hb5.mono hbel.size)⟩
          case measure => simp [intOf]; omega
      · have hend := inv_last HI.out (by rw [HLn.out]; omega)
        have hen1 : ¬ st + j + 3 ≤ o.size := by omega
        have hen2 : o.size ≤ st + j := by omega
        have HE : Hid (o.size = st + j) := hend
        clear hend
        go_wp2_with fail
        have hseg : o.extract st o.size = o.extract st (st + j) := by rw [HE.out]
        go_region_held3 (fun w' => w'.cell? ⟨b, off + k * 3, none⟩ = some (.string t.ty) ∧ w'.cell? ⟨b, off + k * 3 + 1, none⟩ = some (.bool t.wild) ∧ w'.cell? ⟨b, off + k * 3 + 2, none⟩ = some (.string t.rel)) (first | (simp [go_sem, *]; done) | exact keep3 hb5 (by simp [go_sem, *]))
          ((go_at_call 9; refine (HK9.out _).mono ?_; rintro e w5 ⟨rfl, hb5⟩))
        all_goals
          have hfin : ((k : Int) + 1 == (len : Int)) = true := beq_iff_eq.2 (by omega)
          go_wp2_with fail
          go_ret
          exact ⟨rfl, hbel.drew.trans (hb5.mono hbel.size)⟩
end Go.Proofs.Qxb6604017a
