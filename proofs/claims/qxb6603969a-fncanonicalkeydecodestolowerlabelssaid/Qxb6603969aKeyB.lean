import Derived.Test.Qxb6603969aKeyA
import Derived.Deep.RegionHeld3
import Derived.Deep.RegionWith
namespace Go.Proofs.Qxb6603969a
open Go.RowKit

def kesc (c : Int) : List Int := if c = 0 then [0, 255] else [low c]
def kescL : List Int → List Int
  | [] => []
  | c :: l => kesc c ++ kescL l
def keyL : List (List Int) → List Int
  | [] => []
  | l :: ls => kescL l ++ (0 :: 1 :: keyL ls)
theorem kescL_append (a b : List Int) : kescL (a ++ b) = kescL a ++ kescL b := by
  induction a with
  | nil => rfl
  | cons x a ih => simp [kescL, ih]
theorem keyL_append (a b : List (List Int)) : keyL (a ++ b) = keyL a ++ keyL b := by
  induction a with
  | nil => rfl
  | cons x a ih => simp [keyL, ih]
theorem kesc_len (c : Int) : (kesc c).length ≤ 2 := by unfold kesc; split <;> simp
theorem kescL_len (l : List Int) : (kescL l).length ≤ 2 * l.length := by
  induction l with
  | nil => simp [kescL]
  | cons x l ih => have := kesc_len x; simp [kescL]; omega
theorem keyL_len (ls : List (List Int)) : (keyL ls).length ≤ 2 * (encL ls).length := by
  induction ls with
  | nil => simp [keyL]
  | cons l ls ih => have := kescL_len l; simp [keyL, encL, enc1]; omega
theorem kesc_nz {c : Int} (h : ¬ c = 0) : [low c] = kesc c := by unfold kesc; rw [if_neg h]
theorem kescL_take {l : List Int} {i : Nat} {c : Int} (h : l[i]? = some c) : kescL (l.take (i + 1)) = kescL (l.take i) ++ kesc c := by
  rw [List.take_add_one, h, kescL_append]; simp [kescL]

theorem zero52 (w : World) : (zeroValue 52).run Try.prog w = .ok (.agg (Array.replicate 127 (.int .u8 0))) w := by kernel_rfl
theorem zero_open : ∃ Z : Array Value, Z.size = 127 ∧ ∀ w, (zeroValue 52).run Try.prog w = .ok (.agg Z) w := ⟨_, by simp, zero52⟩

theorem s_keep {w w' : World} {a b : Addr} {x y : Value} (hb : Below w.heap.size w w') (h : w.cell? a = some x ∧ w.cell? b = some y) : w'.cell? a = some x ∧ w'.cell? b = some y :=
  ⟨(hb.cell (World.block_lt_of_cell? _ _ h.1)).trans h.1, (hb.cell (World.block_lt_of_cell? _ _ h.2)).trans h.2⟩
def RK (W : World) (ao : Option Addr) (n : Nat) (xs ys : List Int) (l : List Int) (g : Nat) (C : Array Value) (fr : Nat × Nat) (v iv : Value) (wx : World) : Prop :=
  ∃ i : Nat, i ≤ l.length ∧ iv = .int .i64 i ∧ App W ao n xs wx v (ys ++ kescL (l.take i)) ∧ wx.heap[g]? = some (Obj.cells C 5 fr) ∧ v.ownBlock ≠ some g ∧ g < wx.heap.size
theorem rk_start {W : World} {ao : Option Addr} {n : Nat} {xs ys : List Int} {l : List Int} {t : ByteArray} {wr w1 w2 : World} {v : Value} {cp : Nat} (hcw : CW t w1 w2) (hx : bytesOf t = l) (happ : App W ao n xs wr v ys) (hb1 : Below wr.heap.size wr w1) (hc : CB W ao n xs) :
    ∃ g cp' C fr, Value.slice (some ⟨w1.heap.size, 0, none⟩) t.size cp = .slice (some ⟨g, 0, none⟩) t.size cp' ∧ (∀ (j : Nat) (x : Int), l[j]? = some x → C[j]? = some (Value.int .u8 x)) ∧ RK W ao n xs ys l g C fr v (.int .i64 0) w2 := by
  obtain ⟨C, fr, hC, hCl⟩ := hcw.cells
  rw [hx] at hCl
  have happ2 := (happ.step hb1).step hcw.below
  exact ⟨w1.heap.size, cp, C, fr, rfl, hCl, 0, Nat.zero_le _, rfl, by simpa [kescL] using happ2, hC, (happ.step hb1).lt hc, hcw.lt⟩
theorem rk_step {W : World} {ao : Option Addr} {n : Nat} {xs ys : List Int} {l : List Int} {g : Nat} {C : Array Value} {fr : Nat × Nat} {v v' : Value} {wx w' : World} {o : Obj} {i : Nat} {c : Int} {news : List Int}
    (hi : l[i]? = some c) (hnews : news = kesc c) (happ : App W ao n xs w' v' ((ys ++ kescL (l.take i)) ++ news)) (hC : wx.heap[g]? = some (Obj.cells C 5 fr)) (hne : v.ownBlock ≠ some g) (hlt : g < wx.heap.size)
    (hsep : ∀ g, g < (wx.alloc o).heap.size → v.ownBlock ≠ some g → w'.heap[g]? = (wx.alloc o).heap[g]? ∧ v'.ownBlock ≠ some g) (hsz : (wx.alloc o).heap.size ≤ w'.heap.size) :
    RK W ao n xs ys l g C fr v' (.int .i64 ((i : Int) + 1)) w' := by
  have h1 := hsep g (by rw [World.size_alloc]; omega) hne
  rw [World.size_alloc] at hsz
  refine ⟨i + 1, (List.getElem?_eq_some_iff.1 hi).1, by go_num, ?_, ?_, h1.2, by omega⟩
  · rw [kescL_take hi, ← hnews, ← List.append_assoc]; exact happ
  · rw [h1.1, Below.heap_alloc _ _ _ hlt]; exact hC
def R18 (ls : List (List Int)) (W : World) (ao : Option Addr) (n : Nat) (xs : List Int) (v iv : Value) (wr : World) : Prop :=
  ∃ j : Nat, j ≤ ls.length ∧ iv = .int .i64 ((j : Int) - 1) ∧ App W ao n xs wr v (keyL (ls.drop j).reverse)
theorem r18_start {ls : List (List Int)} {W : World} {ao : Option Addr} {n : Nat} {xs : List Int} : R18 ls W ao n xs (.slice ao n n) (.int .i64 ((ls.length : Int) - 1)) W :=
  ⟨ls.length, Nat.le_refl _, rfl, by simpa [keyL] using App.start⟩
theorem split_at {α : Type} {ls : List α} {k : Nat} {l : α} (h : ls[k]? = some l) : ls = ls.take k ++ l :: ls.drop (k + 1) := by
  obtain ⟨hk, rfl⟩ := List.getElem?_eq_some_iff.1 h
  rw [← List.drop_eq_getElem_cons hk, List.take_append_drop]
theorem encL_rev (ls : List (List Int)) : (encL ls.reverse).length = (encL ls).length := by
  induction ls with
  | nil => rfl
  | cons l ls ih => rw [List.reverse_cons, encL_append]; simp [encL, ih]; omega

theorem r18_next {ls : List (List Int)} {W : World} {ao : Option Addr} {n : Nat} {xs : List Int} {k : Nat} {l : List Int} {v : Value} {w : World} (hk : ls[k]? = some l) (h : App W ao n xs w v ((keyL (ls.drop (k + 1)).reverse ++ kescL (l.take l.length)) ++ [0, 1])) :
    R18 ls W ao n xs v (.int .i64 ((k : Int) - 1)) w := by
  obtain ⟨hlt, rfl⟩ := List.getElem?_eq_some_iff.1 hk
  refine ⟨k, by omega, rfl, ?_⟩
  rw [List.drop_eq_getElem_cons hlt, List.reverse_cons, keyL_append]
  simpa [keyL] using h

set_option maxHeartbeats 4000000 in
set_option maxRecDepth 100000 in
theorem key_walk (s : ByteArray) (ao : Option Addr) (n : Nat) (xs : List Int) (ls : List (List Int)) (W : World) (hs : s.size ≤ 255) (hw : Wire s ls) (hc0 : CB W ao n xs) (hn : n ≤ 1048576) :
    Calls Try.prog 18 #[.agg #[.string s], .slice ao n n] W fun e w' => POut W ao n xs (keyL ls.reverse) e w' := by
  obtain ⟨Z, hZ, hzr⟩ := zero_open
  go_enter Try.func18, Try.ntmps18
  go_upto_region 2 with fail
  obtain ⟨W1, hW1⟩ : ∃ W1, W1 = (W.alloc (.cells #[.string s] 27)).alloc (.cells Z 52) := ⟨_, rfl⟩
  have hsz1 : W1.heap.size = W.heap.size + 2 := by rw [hW1]; simp
  have hbox : W1.cell? ⟨W.heap.size, 0, none⟩ = some (.string s) := by rw [hW1]; simp [go_sem]
  have hO : Offs W1 (W.heap.size + 1) [] := ⟨Z, by rw [hW1]; have := heap_alloc_new (W.alloc (.cells #[.string s] 27)) (.cells Z 52); simpa using this, hZ, fun i h => absurd h (by simp)⟩
  have hbW : Below W.heap.size W W1 := by rw [hW1]; exact ((Below.refl _ _).alloc (Nat.le_refl _) _).alloc (by simp) _
  rw [← hW1]
  have HZ1 : Hid (W1.heap.size = W.heap.size + 2) := hsz1
  have HO : Hid (Offs W1 (W.heap.size + 1) []) := hO
  clear hW1 hsz1 hO hzr hZ
  go_cut [6] (fun s6 wx => s6 = .slice (some ⟨W.heap.size + 1, 0, none⟩) ls.length 127 ∧ Offs wx (W.heap.size + 1) ls ∧ Below (W.heap.size + 1) W1 wx ∧ W1.heap.size ≤ wx.heap.size)
  case first =>
    go_region_held3 (fun w' => w'.cell? ⟨W.heap.size, 0, none⟩ = some (.string s)) (first | (simp [go_sem, *]; done) | (rw [hbw.cell (p := ⟨W.heap.size, 0, none⟩) (Nat.lt_succ_self _)]; simp [go_sem, *]))
      ((go_at_call 32; refine (offsets_any s ls (W.heap.size + 1) _ hs hw (by exact HO.out) (by have := HZ1.out; show _ < _; first | omega | (simp; omega))).mono ?_; rintro e w2 ⟨rfl, hO2, hbw, hsz2⟩))
    all_goals
      go_wp2_with fail
      go_meet
      case rel => exact ⟨rfl, hO2, ((Below.refl _ W1).drew).trans hbw, by exact hsz2⟩
  case rest =>
    obtain ⟨rfl, hO2, hb2, hsz2⟩ := hcut
    obtain ⟨W2, hW2e⟩ : ∃ W2, W2 = wc := ⟨wc, rfl⟩
    subst hW2e
    have hbc : Below W.heap.size W W2 := hbW.trans (hb2.mono (by omega))
    have hc := hc0.below hbc
    have HBX : Hid (W2.cell? ⟨W.heap.size, 0, none⟩ = some (.string s)) := (hb2.cell (p := ⟨W.heap.size, 0, none⟩) (Nat.lt_succ_self _)).trans hbox
    have HO2 : Hid (Offs W2 (W.heap.size + 1) ls) := hO2
    have hBlt : W.heap.size + 1 < W2.heap.size := by have := HZ1.out; omega
    have hfew := labels_few hw
    have hwl := wire_len hw
    clear hO2 hb2 hsz2 hbox HO
    go_wp2
    go_loopw [1, 7] (fun v iv wr => R18 ls W2 ao n xs v iv wr) (fun _ iv _ => (intOf iv + 1).toNat)
    case atStart => exact r18_start
    case round =>
      obtain ⟨j, hj, rfl, happ⟩ := hrel
      cases j with
      | zero =>
        go_wp2
        go_ret
        exact pout_mk (by simpa using happ.weaken hbc)
      | succ k =>
        obtain ⟨l, hlk⟩ : ∃ l, ls[k]? = some l := ⟨_, List.getElem?_eq_getElem (by omega)⟩
        have hsplit : ls = ls.take k ++ l :: ls.drop (k + 1) := split_at hlk
        have hw2 := hw
        rw [hsplit] at hw2
        obtain ⟨hk, hb, hl0, hfit, hbn, hex, hnext⟩ := label_facts hw2
        have hoff : wr.cell? ⟨W.heap.size + 1, k, none⟩ = some (.int .u8 ((encL (ls.take k)).length : Int)) := by
          obtain ⟨C, h1, h2, h3⟩ := HO2.out
          rw [happ.below.cell (p := ⟨W.heap.size + 1, k, none⟩) hBlt]
          simp only [World.cell?, h1]
          simpa using h3 k (by omega)
        have hbox : wr.cell? ⟨W.heap.size, 0, none⟩ = some (.string s) := (happ.below.cell (p := ⟨W.heap.size, 0, none⟩) (Nat.lt_of_succ_lt hBlt)).trans HBX.out
        have hkl : (keyL (ls.drop (k + 1)).reverse).length ≤ 600 := by
          have h1 := keyL_len (ls.drop (k + 1)).reverse
          have h2 := encL_rev (ls.drop (k + 1))
          have h3 : (encL ls).length = (encL (ls.take k)).length + (encL (l :: ls.drop (k + 1))).length := by rw [← List.length_append, ← encL_append, ← hsplit]
          simp [encL] at h3
          omega
        generalize hkd : (encL (ls.take k)).length = q at *
        have HB : Hid (s[q].toNat = l.length) := hbn
        have hl255 : l.length ≤ 255 := by omega
        obtain ⟨t, ht⟩ : ∃ t, t = s.extract (q + 1) (q + 1 + s[q].toNat) := ⟨_, rfl⟩
        have hlab := fun w => label_any s q w hk hs hfit
        rw [← ht] at hlab hex
        have HL : Hid (∀ w, Calls Try.prog 29 #[.agg #[.string s], .int .u8 (q : Int)] w fun e w' => e = .returned (.string t) ∧ Below w.heap.size w w') := hlab
        have HX : Hid (bytesOf t = l) := hex
        have HT : Hid (t.size = l.length) := by have := bytesOf_length t; rw [hex] at this; exact this.symm
        have HLK : Hid (ls[k]? = some l) := hlk
        obtain ⟨gc, cw, hcv, HCW⟩ := conv_open t
        have hki : (k : Int) < (ls.length : Int) := by omega
        have hk0 : (0 : Int) ≤ (k : Int) := by omega
        rw [show (((k + 1 : Nat) : Int) - 1) = (k : Int) from by omega]
        clear hb hbn hnext hlab hex ht hkd hsplit hw2 hlk
        go_upto_region 6 with fail
        go_cut [26, 27, 28] (fun s26 s27 s28 wx => s27 = .int .i64 (t.size : Int) ∧ s28 = .int .i64 0 ∧ ∃ g cp C fr, s26 = .slice (some ⟨g, 0, none⟩) t.size cp ∧ (∀ (j : Nat) (x : Int), l[j]? = some x → C[j]? = some (Value.int .u8 x)) ∧ RK W2 ao n xs (keyL (ls.drop (k + 1)).reverse) l g C fr u1 (.int .i64 0) wx)
        case first =>
          go_region_with (go_at_call 29; refine (HL.out _).mono ?_; rintro e w1 ⟨rfl, hb1⟩)
          all_goals
            go_wp2_with fail
            go_meet
            case rel => exact ⟨rfl, rfl, rk_start (HCW.out _) HX.out happ (Below.trans (B := wr.heap.size) ((Below.refl _ wr).drew) hb1) hc⟩
        case rest =>
          obtain ⟨rfl, rfl, g, cp, C, fr, rfl, hCl, hst⟩ := hcut
          have HCl : Hid (∀ (j : Nat) (x : Int), l[j]? = some x → C[j]? = some (Value.int .u8 x)) := hCl
          have HBD : Hid (∀ x ∈ l, 0 ≤ x ∧ x ≤ 255) := by have := bytesOf_bd t; rw [HX.out] at this; exact this
          have HST : Hid (RK W2 ao n xs (keyL (ls.drop (k + 1)).reverse) l g C fr u1 (.int .i64 0) wc) := hst
          clear hCl hst hoff hbox happ hcv HCW HL
          go_wp2
          go_loopw [1, 28] (fun v i wx => RK W2 ao n xs (keyL (ls.drop (k + 1)).reverse) l g C fr v i wx) (fun _ i _ => l.length - (intOf i).toNat)
          case atStart => exact HST.out
          case round =>
            clear HST
            obtain ⟨i, hil, rfl, happ, hC, hne, hglt⟩ := hrel
            have hel := kescL_len (l.take i)
            have hetl : (l.take i).length ≤ l.length := by simp; omega
            have hit : i ≤ t.size := by have := HT.out; omega
            by_cases hlt : i < l.length
            · have hltt : i < t.size := by have := HT.out; omega
              obtain ⟨c, hci⟩ : ∃ c, l[i]? = some c := ⟨_, List.getElem?_eq_getElem hlt⟩
              have hbd := HBD.out c (List.mem_of_getElem? hci)
              have hlb := low_bd c hbd
              have hcx : wr.cell? ⟨g, i, none⟩ = some (.int .u8 c) := by simp only [World.cell?, hC]; simpa using HCl.out i c hci
              have HCI : Hid (l[i]? = some c) := hci
              have HC : Hid (wr.heap[g]? = some (Obj.cells C 5 fr)) := hC
              clear hci hC
              by_cases hz : c = 0
              · subst hz
                have HE : Hid ([0, 255] = kesc 0) := rfl
                go_wp2_with (at_builtin; refine wpList_append_app hc _ rfl (.tmp 34) (.tmp 35) rfl rfl (happ.alloc _) ⟨wr.heap.size, 0, none⟩ 2 2 [0, 255] rfl rfl (by omega) (cell_news wr [0, 255] 5) (by simp; omega) ?_; intro v' w' happ' hsep hsz)
                go_roundw
                case rel => exact rk_step HCI.out HE.out happ' HC.out hne hglt hsep hsz
                case measure => simp [intOf]; omega
              · have HE : Hid ([low c] = kesc c) := kesc_nz hz
                have hzb : (c == 0) = false := beq_eq_false_iff_ne.2 hz
                clear hz
                go_wp2_with (first
                  | (go_at_call 33; refine (lowerByte_any c hbd.1 hbd.2 _).mono ?_; rintro e w' ⟨rfl, rfl⟩)
                  | (at_builtin; refine wpList_append_app hc _ rfl (.tmp 37) (.tmp 40) rfl rfl (happ.alloc _) ⟨wr.heap.size, 0, none⟩ 1 1 [low c] rfl rfl (by omega) (cell_news wr [low c] 5) (by simp; omega) ?_; intro v' w' happ' hsep hsz))
                go_roundw
                case rel => exact rk_step HCI.out HE.out happ' HC.out hne hglt hsep hsz
                case measure => simp [intOf]; omega
            · obtain rfl : i = l.length := by omega
              have hel2 := kescL_len l
              have htge : t.size ≤ l.length := by have := HT.out; omega
              go_wp2_with (at_builtin; refine wpList_append_app hc _ rfl (.tmp 43) (.tmp 44) rfl rfl (happ.alloc _) ⟨wr.heap.size, 0, none⟩ 2 2 [0, 1] rfl rfl (by omega) (cell_news wr [0, 1] 5) (by simp; omega) ?_; intro v' w' happ' hsep hsz)
              go_roundw
              case rel => exact r18_next HLK.out happ'
              case measure => first | (simp [intOf]; done) | (simp [intOf]; omega)
end Go.Proofs.Qxb6603969a
