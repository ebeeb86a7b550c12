import Derived.Test.Qxb6603969aEsc
namespace Go.Proofs.Qxb6603969a
open Go.RowKit
def POut (W : World) (ao : Option Addr) (n : Nat) (xs ys : List Int) (e : Ending) (w' : World) : Prop := ∃ v, e = .returned v ∧ App W ao n xs w' v ys
theorem pout_mk {W : World} {ao : Option Addr} {n : Nat} {xs ys : List Int} {v : Value} {w' : World} (h : App W ao n xs w' v ys) : POut W ao n xs ys (.returned v) w' := ⟨v, rfl, h⟩
theorem wire_nil {s : ByteArray} (h : Wire s []) : (s.toList == [0]) = true := by
  rw [ByteArray.toList_eq]
  have h1 := h.1
  simp only [encL, bytesOf, List.nil_append] at h1
  generalize s.data.toList = d at h1 ⊢
  cases d with
  | nil => simp at h1
  | cons c d =>
    cases d with
    | nil =>
      simp at h1
      have : c = 0 := UInt8.toNat_inj.1 (by simpa using h1)
      subst this; rfl
    | cons a b => simp at h1
theorem wire_cons {s : ByteArray} {l : List Int} {ls : List (List Int)} (h : Wire s (l :: ls)) : (s.toList == [0]) = false := by
  rw [ByteArray.toList_eq]
  have h1 := wire_len h
  apply beq_eq_false_iff_ne.2
  intro e
  have h2 : s.size = 1 := by
    have : s.data.toList.length = 1 := by rw [e]; rfl
    exact this
  rw [h2] at h1
  simp [encL, enc1] at h1
/-- What is known of the label whose length octet stands behind the labels 'done'. -/
theorem label_facts {s : ByteArray} {done rest : List (List Int)} {l : List Int} (h : Wire s (done ++ l :: rest)) :
    ∃ hk : (encL done).length < s.size, (s[(encL done).length].toNat : Int) = l.length ∧ 0 < l.length ∧ (encL done).length + 1 + s[(encL done).length].toNat ≤ s.size ∧ s[(encL done).length].toNat = l.length ∧
      bytesOf (s.extract ((encL done).length + 1) ((encL done).length + 1 + s[(encL done).length].toNat)) = l ∧ (encL (done ++ [l])).length = (encL done).length + 1 + l.length := by
  have h1 := h.1
  have h2 : bytesOf s = encL done ++ (l.length : Int) :: (l ++ (encL rest ++ [0])) := by rw [h1, encL_append]; simp [encL, enc1]
  obtain ⟨hk, hb⟩ := byte_at h2
  have hl : 0 < l.length := by
    have := h.2 l (by simp)
    exact List.length_pos_iff.2 this
  have hn : s[(encL done).length].toNat = l.length := by omega
  have hlen := wire_len h
  rw [encL_append] at hlen
  simp [encL, enc1] at hlen
  refine ⟨hk, hb, hl, by omega, hn, ?_, ?_⟩
  · rw [hn]; exact bytesOf_extract h2
  · rw [encL_append]; simp [encL, enc1]; omega
theorem end_facts {s : ByteArray} {done : List (List Int)} (h : Wire s done) : ∃ hk : (encL done).length < s.size, (s[(encL done).length].toNat : Int) = 0 := byte_at (post := []) h.1

def Rel12 (ls : List (List Int)) (W : World) (ao : Option Addr) (n : Nat) (xs : List Int) (v off : Value) (wr : World) : Prop :=
  ∃ done rest, ls = done ++ rest ∧ off = .int .i64 ((encL done).length : Int) ∧ App W ao n xs wr v (presL done)

def RI (W : World) (ao : Option Addr) (n : Nat) (xs : List Int) (done : List (List Int)) (l : List Int) (g : Nat) (C : Array Value) (fr : Nat × Nat) (v iv : Value) (wx : World) : Prop :=
  ∃ i : Nat, i ≤ l.length ∧ iv = .int .i64 i ∧ App W ao n xs wx v (presL done ++ escL (l.take i)) ∧ wx.heap[g]? = some (Obj.cells C 5 fr) ∧ v.ownBlock ≠ some g ∧ g < wx.heap.size
theorem ri_start {W : World} {ao : Option Addr} {n : Nat} {xs : List Int} {done : List (List Int)} {l : List Int} {g : Nat} {C : Array Value} {fr : Nat × Nat} {v : Value} {wx : World} (happ : App W ao n xs wx v (presL done)) (hC : wx.heap[g]? = some (Obj.cells C 5 fr)) (hne : v.ownBlock ≠ some g) (hlt : g < wx.heap.size) :
    RI W ao n xs done l g C fr v (.int .i64 0) wx := ⟨0, Nat.zero_le _, rfl, by simpa [escL] using happ, hC, hne, hlt⟩
theorem escL_take {l : List Int} {i : Nat} {c : Int} (h : l[i]? = some c) : escL (l.take (i + 1)) = escL (l.take i) ++ esc c := by
  rw [List.take_add_one, h, escL_append]; simp [escL]
theorem ri_step {W : World} {ao : Option Addr} {n : Nat} {xs : List Int} {done : List (List Int)} {l : List Int} {g : Nat} {C : Array Value} {fr : Nat × Nat} {v v' : Value} {wx w' : World} {o : Obj} {i : Nat} {c : Int} {news : List Int}
    (hi : l[i]? = some c) (hnews : news = esc c) (happ : App W ao n xs w' v' ((presL done ++ escL (l.take i)) ++ news)) (hC : wx.heap[g]? = some (Obj.cells C 5 fr)) (hne : v.ownBlock ≠ some g) (hlt : g < wx.heap.size)
    (hsep : ∀ g, g < (wx.alloc o).heap.size → v.ownBlock ≠ some g → w'.heap[g]? = (wx.alloc o).heap[g]? ∧ v'.ownBlock ≠ some g) (hsz : (wx.alloc o).heap.size ≤ w'.heap.size) :
    RI W ao n xs done l g C fr v' (.int .i64 ((i : Int) + 1)) w' := by
  have h1 := hsep g (by rw [World.size_alloc]; omega) hne
  rw [World.size_alloc] at hsz
  refine ⟨i + 1, (List.getElem?_eq_some_iff.1 hi).1, by go_num, ?_, ?_, h1.2, by omega⟩
  · rw [escL_take hi, ← hnews, ← List.append_assoc]; exact happ
  · rw [h1.1, Below.heap_alloc _ _ _ hlt]; exact hC

theorem not_special {c : Int} (h : special c = false) : (c == 46) = false ∧ (c == 92) = false ∧ (c == 34) = false ∧ (c == 40) = false ∧ (c == 41) = false ∧ (c == 59) = false ∧ (c == 64) = false ∧ (c == 36) = false := by
  simp [special] at h ⊢
  omega
theorem esc_sp {c : Int} (h : special c = true) : [92, c] = esc c := by unfold esc; rw [if_pos h]
theorem esc_ctl {c : Int} (h : special c = false) (hc : c ≤ 32 ∨ 127 ≤ c) : [92, 48 + c / 100, 48 + c / 10 % 10, 48 + c % 10] = esc c := by unfold esc; rw [if_neg (by simp [h]), if_pos hc]
theorem esc_self {c : Int} (h : special c = false) (hc : ¬ (c ≤ 32 ∨ 127 ≤ c)) : [c] = esc c := by unfold esc; rw [if_neg (by simp [h]), if_neg hc]
theorem special_ways {c : Int} (h : special c = true) : ((c == 46) = true) ∨ ((c == 46) = false ∧ (c == 92) = true) ∨ ((c == 46) = false ∧ (c == 92) = false ∧ (c == 34) = true) ∨ ((c == 46) = false ∧ (c == 92) = false ∧ (c == 34) = false ∧ (c == 40) = true) ∨ ((c == 46) = false ∧ (c == 92) = false ∧ (c == 34) = false ∧ (c == 40) = false ∧ (c == 41) = true) ∨ ((c == 46) = false ∧ (c == 92) = false ∧ (c == 34) = false ∧ (c == 40) = false ∧ (c == 41) = false ∧ (c == 59) = true) ∨ ((c == 46) = false ∧ (c == 92) = false ∧ (c == 34) = false ∧ (c == 40) = false ∧ (c == 41) = false ∧ (c == 59) = false ∧ (c == 64) = true) ∨ ((c == 46) = false ∧ (c == 92) = false ∧ (c == 34) = false ∧ (c == 40) = false ∧ (c == 41) = false ∧ (c == 59) = false ∧ (c == 64) = false ∧ (c == 36) = true) := by
  simp [special] at h ⊢
  omega
theorem is_special {c : Int} (h : special c = true) : c = 46 ∨ c = 92 ∨ c = 34 ∨ c = 40 ∨ c = 41 ∨ c = 59 ∨ c = 64 ∨ c = 36 := by simpa [special] using h

theorem rel12_next {W : World} {ao : Option Addr} {n : Nat} {xs : List Int} {done rest : List (List Int)} {l : List Int} {s : ByteArray} {k : Nat} {hk : k < s.size} {v : Value} {w : World} (hN : (encL (done ++ [l])).length = k + 1 + l.length) (hB : s[k].toNat = l.length)
    (h : App W ao n xs w v ((presL done ++ escL (l.take l.length)) ++ [46])) : Rel12 (done ++ l :: rest) W ao n xs v (.int .i64 ((k : Int) + (1 + (s[k].toNat : Int)))) w := by
  refine ⟨done ++ [l], rest, by simp, ?_, ?_⟩
  · rw [hN, hB]; go_num
  · rw [presL_append]
    simpa [presL] using h

set_option maxHeartbeats 4000000 in
set_option maxRecDepth 100000 in
theorem pres_walk (s : ByteArray) (ao : Option Addr) (n : Nat) (xs : List Int) (ls : List (List Int)) (W : World) (hs : s.size ≤ 255) (hw : Wire s ls) (hc0 : CB W ao n xs) (hn : n ≤ 1048576) :
    Calls Try.prog 12 #[.agg #[.string s], .slice ao n n] W fun e w' => POut W ao n xs (pres ls) e w' := by
  have hbW : Below W.heap.size W (W.alloc (.cells #[.string s] 27)) := (Below.refl _ _).alloc (Nat.le_refl _) _
  have hc := hc0.below hbW
  by_cases hls : ls = []
  · subst hls
    have ht := wire_nil hw
    have hst := (App.start (W := W.alloc (.cells #[.string s] 27)) (ao := ao) (n := n) (xs := xs))
    go_enter Try.func12, Try.ntmps12
    go_wp2_with (at_builtin; refine wpList_append_app hc _ rfl (.tmp 11) (.tmp 12) rfl rfl (hst.alloc _) ⟨W.heap.size + 1, 0, none⟩ 1 1 [46] rfl rfl (by omega) (by have := cell_news (W.alloc (.cells #[.string s] 27)) [46] 5; simpa using this) (by simp; omega) ?_; intro v' w' happ hsep hsz)
    go_ret
    exact pout_mk (happ.weaken hbW)
  · have ht : (s.toList == [0]) = false := by
      cases ls with
      | nil => exact absurd rfl hls
      | cons l r => exact wire_cons hw
    have hcell0 : (W.alloc (.cells #[.string s] 27)).cell? ⟨W.heap.size, 0, none⟩ = some (.string s) := by simp [go_sem]
    go_enter Try.func12, Try.ntmps12
    go_wp2
    obtain ⟨W1, hW1⟩ : ∃ W1, W1 = W.alloc (.cells #[.string s] 27) := ⟨_, rfl⟩
    have hsz1 : W1.heap.size = W.heap.size + 1 := by rw [hW1]; simp
    rw [← hW1] at hbW hc hcell0 ⊢
    have HW : Hid (W1.heap.size = W.heap.size + 1) := hsz1
    clear hW1 hsz1
    go_loopw [1, 5] (fun v off wr => Rel12 ls W1 ao n xs v off wr) (fun _ off _ => s.size - (intOf off).toNat)
    case atStart => exact ⟨[], ls, rfl, rfl, App.start⟩
    case round =>
      obtain ⟨done, rest, rfl, rfl, happ⟩ := hrel
      have hcell : wr.cell? ⟨W.heap.size, 0, none⟩ = some (.string s) := (happ.below.cell (by have := HW.out; simp; omega)).trans hcell0
      cases rest with
      | nil =>
        obtain ⟨hk, hb⟩ := end_facts (by simpa using hw)
        have hbb : ((s[(encL done).length].toNat : Int) != 0) = false := by rw [hb]; rfl
        have hfin : pres (done ++ []) = presL done := by simp [pres] at hls ⊢; simp [hls]
        have HF : Hid (pres (done ++ []) = presL done) := hfin
        clear hb hfin hcell0
        go_wp2
        go_ret
        rw [HF.out]
        exact pout_mk (happ.weaken hbW)
      | cons l rest =>
        obtain ⟨hk, hb, hl0, hfit, hbn, hex, hnext⟩ := label_facts hw
        have hbb : ((s[(encL done).length].toNat : Int) != 0) = true := by rw [bne_iff_ne]; omega
        have hpl := presL_len done
        generalize hkd : (encL done).length = k at *
        have HN : Hid ((encL (done ++ [l])).length = k + 1 + l.length) := hnext
        have HB : Hid (s[k].toNat = l.length) := hbn
        have hl255 : l.length ≤ 255 := by omega
        obtain ⟨t, ht⟩ : ∃ t, t = s.extract (k + 1) (k + 1 + s[k].toNat) := ⟨_, rfl⟩
        have hlab := fun w => label_any s k w hk hs hfit
        rw [← ht] at hlab hex
        have HL : Hid (∀ w, Calls Try.prog 29 #[.agg #[.string s], .int .u8 (k : Int)] w fun e w' => e = .returned (.string t) ∧ Below w.heap.size w w') := hlab
        have htl : t.size = l.length := by have := bytesOf_length t; rw [hex] at this; exact this.symm
        have HX : Hid (bytesOf t = l) := hex
        have HT : Hid (t.size = l.length) := htl
        obtain ⟨gc, cw, hcv, HCW⟩ := conv_open t
        have H0 : Hid (W1.cell? ⟨W.heap.size, 0, none⟩ = some (.string s)) := hcell0
        clear hb hbn hnext hlab hex htl ht hcell0 hkd
        go_wp2_with (go_at_call 29; refine (HL.out _).mono ?_; rintro e w1 ⟨rfl, hb1⟩)
        have hcw := HCW.out w1
        obtain ⟨C, fr, hC, hCl⟩ := hcw.cells
        have happ2 : App W1 ao n xs (cw w1) u1 (presL done) := (happ.step hb1).step hcw.below
        have hne : u1.ownBlock ≠ some w1.heap.size := (happ.step hb1).lt hc
        have hlt2 := hcw.lt
        generalize cw w1 = w2 at *
        rw [HX.out] at hCl
        have HCl : Hid (∀ (j : Nat) (x : Int), l[j]? = some x → C[j]? = some (Value.int .u8 x)) := hCl
        have HBD : Hid (∀ x ∈ l, 0 ≤ x ∧ x ≤ 255) := by have := bytesOf_bd t; rw [HX.out] at this; exact this
        have hst : RI W1 ao n xs done l w1.heap.size C fr u1 (.int .i64 0) w2 := ri_start happ2 hC hne hlt2
        have HST : Hid (RI W1 ao n xs done l w1.heap.size C fr u1 (.int .i64 0) w2) := hst
        clear hcw hC hCl happ2 hne hlt2 hst happ hcell hbb hcv HCW hb1 HL
        obtain ⟨g, hg⟩ : ∃ g, g = w1.heap.size := ⟨_, rfl⟩
        rw [← hg] at HST ⊢
        clear hg
        go_loopw [1, 40] (fun v i wx => RI W1 ao n xs done l g C fr v i wx) (fun _ i _ => l.length - (intOf i).toNat)
        case atStart => exact HST.out
        case round =>
          clear HST
          obtain ⟨i, hil, rfl, happ, hC, hne, hglt⟩ := hrel
          have hel := escL_len (l.take i)
          have hetl : (l.take i).length ≤ l.length := by simp; omega
          have hit : i ≤ t.size := by have := HT.out; omega
          by_cases hlt : i < l.length
          · have hltt : i < t.size := by have := HT.out; omega
            obtain ⟨c, hci⟩ : ∃ c, l[i]? = some c := ⟨_, List.getElem?_eq_getElem hlt⟩
            have hbd := HBD.out c (List.mem_of_getElem? hci)
            have hcx : wr.cell? ⟨g, i, none⟩ = some (.int .u8 c) := by simp only [World.cell?, hC]; simpa using HCl.out i c hci
            have HCI : Hid (l[i]? = some c) := hci
            have HC : Hid (wr.heap[g]? = some (Obj.cells C 5 fr)) := hC
            clear hci hC
            cases hsp : special c
            · have nsp := not_special hsp
              obtain ⟨n1, n2, n3, n4, n5, n6, n7, n8⟩ := nsp
              by_cases hct : c ≤ 32 ∨ 127 ≤ c
              · have HE : Hid ([92, 48 + c / 100, 48 + c / 10 % 10, 48 + c % 10] = esc c) := esc_ctl hsp hct
                clear hsp
                rcases hct with hct | hct
                all_goals
                  go_wp2_with (at_builtin; refine wpList_append_app hc _ rfl (.tmp 90) (.tmp 101) rfl rfl (happ.alloc _) ⟨wr.heap.size, 0, none⟩ 4 4 [92, 48 + c / 100, 48 + c / 10 % 10, 48 + c % 10] rfl rfl (by omega) (cell_news wr [92, 48 + c / 100, 48 + c / 10 % 10, 48 + c % 10] 5) (by simp; omega) ?_; intro v' w' happ' hsep hsz)
                  go_roundw
                  case rel => exact ri_step HCI.out HE.out happ' HC.out hne hglt hsep hsz
                  case measure => simp [intOf]; omega
              · have HE : Hid ([c] = esc c) := esc_self hsp hct
                have hc1 : ¬ c ≤ 32 := by omega
                have hc2 : ¬ 127 ≤ c := by omega
                clear hsp hct
                go_wp2_with (at_builtin; refine wpList_append_app hc _ rfl (.tmp 44) (.tmp 46) rfl rfl (happ.alloc _) ⟨wr.heap.size, 0, none⟩ 1 1 [c] rfl rfl (by omega) (cell_news wr [c] 5) (by simp; omega) ?_; intro v' w' happ' hsep hsz)
                go_roundw
                case rel => exact ri_step HCI.out HE.out happ' HC.out hne hglt hsep hsz
                case measure => simp [intOf]; omega
            · have HE : Hid ([92, c] = esc c) := esc_sp hsp
              rcases special_ways hsp with q1 | ⟨q1, q2⟩ | ⟨q1, q2, q3⟩ | ⟨q1, q2, q3, q4⟩ | ⟨q1, q2, q3, q4, q5⟩ | ⟨q1, q2, q3, q4, q5, q6⟩ | ⟨q1, q2, q3, q4, q5, q6, q7⟩ | ⟨q1, q2, q3, q4, q5, q6, q7, q8⟩
              all_goals
                clear hsp
                go_wp2_with (at_builtin; refine wpList_append_app hc _ rfl (.tmp 79) (.tmp 81) rfl rfl (happ.alloc _) ⟨wr.heap.size, 0, none⟩ 2 2 [92, c] rfl rfl (by omega) (cell_news wr [92, c] 5) (by simp; omega) ?_; intro v' w' happ' hsep hsz)
                go_roundw
                case rel => exact ri_step HCI.out HE.out happ' HC.out hne hglt hsep hsz
                case measure => simp [intOf]; omega
          · obtain rfl : i = l.length := by omega
            have hcellx : wr.cell? ⟨W.heap.size, 0, none⟩ = some (.string s) := (happ.below.cell (by have := HW.out; simp; omega)).trans H0.out
            have hbx := UInt8.toNat_lt s[k]
            have hel2 := escL_len l
            have htge : t.size ≤ l.length := by have := HT.out; omega
            go_wp2_with (at_builtin; refine wpList_append_app hc _ rfl (.tmp 104) (.tmp 105) rfl rfl (happ.alloc _) ⟨wr.heap.size, 0, none⟩ 1 1 [46] rfl rfl (by omega) (cell_news wr [46] 5) (by simp; omega) ?_; intro v' w' happ' hsep hsz; have hcelly := (happ'.below.cell (p := ⟨W.heap.size, 0, none⟩) (by have := HW.out; simp; omega)).trans H0.out)
            go_roundw
            case rel => exact rel12_next HN.out HB.out happ'
            case measure => simp [intOf]; omega
end Go.Proofs.Qxb6603969a
