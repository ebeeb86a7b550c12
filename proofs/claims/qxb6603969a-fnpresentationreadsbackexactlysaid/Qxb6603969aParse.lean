import Derived.Test.Qxb6603969aPair
namespace Go.Proofs.Qxb6603969a
open Go.RowKit

theorem sep_symm {a b : Option Nat} (h : a = none ∨ a ≠ b) : b = none ∨ b ≠ a := by
  cases a <;> cases b <;> simp_all
  intro e; exact h e.symm
/-- What parsePresentation hands back: the bytes ws, in a row of its own. -/
def ParseOut (w : World) (ws : List Int) (e : Ending) (w' : World) : Prop :=
  ∃ g cap, e = .returned (.tuple #[.slice (some ⟨g, 0, none⟩) ws.length cap, .bool true]) ∧ w'.ownsRow w.heap.size 5 1 (.slice (some ⟨g, 0, none⟩) ws.length cap) ws.length (ws.map (Value.int .u8)) ∧ Below w.heap.size w w'
theorem parse_mk {w w' : World} {ws : List Int} {g cap n : Nat} (hn : n = ws.length) (h : w'.ownsRow w.heap.size 5 1 (.slice (some ⟨g, 0, none⟩) n cap) n (ws.map (Value.int .u8))) (hb : Below w.heap.size w w') : ParseOut w ws (.returned (.tuple #[.slice (some ⟨g, 0, none⟩) n cap, .bool true])) w' := by
  subst hn; exact ⟨g, cap, rfl, h, hb⟩

/-- The row, cut to nothing, is still the call's own. -/
theorem own_cut {w : World} {b : Nat} {e : TypeId} {g n cap : Nat} {xs : List Value} (h : w.ownsRow b e 1 (.slice (some ⟨g, 0, none⟩) n cap) n xs) : w.ownsRow b e 1 (.slice (some ⟨g, 0, none⟩) 0 cap) 0 [] := by
  rcases h.2 with ⟨h, _⟩ | ⟨g', cap', cur, hv, h1, h2, _, h4, h5, _⟩
  · simp at h
  · simp only [Value.slice.injEq, Option.some.injEq, Addr.mk.injEq, and_true, true_and] at hv
    obtain ⟨rfl, rfl⟩ := hv
    exact ⟨by simp, .inr ⟨g, cap, cur, rfl, h1, h2, Nat.zero_le _, h4, h5, by simp⟩⟩
theorem rp_dot {ls done rest : List (List Int)} {a : List Int} {i : Nat} {w w2 : World} {gl lc g2 cap2 : Nat} (hls : ls = done ++ (a ++ []) :: rest) (hi : (presL done ++ escL a).length = i)
    (hv : w2.ownsRow w.heap.size 5 1 (.slice (some ⟨g2, 0, none⟩) ((encL done).length + 1 + a.length) cap2) ((encL done).length + 1 + a.length) (((encL done ++ [(a.length : Int)]) ++ a).map (Value.int .u8)))
    (hu : w2.ownsRow w.heap.size 5 1 (.slice (some ⟨gl, 0, none⟩) a.length lc) a.length (a.map (Value.int .u8))) (hsp : (Value.slice (some ⟨gl, 0, none⟩) a.length lc).ownBlock = none ∨ (Value.slice (some ⟨gl, 0, none⟩) a.length lc).ownBlock ≠ some g2) (hb : Below w.heap.size w w2) :
    RP ls w (.slice (some ⟨g2, 0, none⟩) ((encL done).length + 1 + a.length) cap2) (.slice (some ⟨gl, 0, none⟩) 0 lc) (.int .i64 ((i : Int) + 1)) w2 := by
  have he : encL (done ++ [a]) = (encL done ++ [(a.length : Int)]) ++ a := by rw [encL_append]; simp [encL, enc1]
  have hel : (encL (done ++ [a])).length = (encL done).length + 1 + a.length := by rw [he]; simp; omega
  refine ⟨done ++ [a], [], i + 1, some ⟨g2, 0, none⟩, some ⟨gl, 0, none⟩, cap2, lc, ?_, by go_num, by rw [hel], rfl, by rw [hel, he]; exact hv, own_cut hu, .inr ?_, hb, ?_⟩
  · rw [← hi, presL_append]; simp [presL, escL]; omega
  · rcases hsp with h | h
    · simp [Value.ownBlock] at h
    · intro e; apply h; simpa [Value.ownBlock] using e.symm
  · cases rest with
    | nil => left; simpa using hls
    | cons l r => right; exact ⟨l, r, by simpa using hls⟩

theorem own_drewN {w : World} {b : Nat} {e : TypeId} {v : Value} {n : Nat} {xs : List Value} (h : w.ownsRow b e 1 v n xs) (k : Nat) : (w.drewN k).ownsRow b e 1 v n xs := own_below h (below_drewN (Below.refl _ _) k)
theorem rp_char {ls done rest : List (List Int)} {a b : List Int} {x : Int} {i d : Nat} {w w1 : World} {wo : Option Addr} {wc g1 cap1 : Nat} (hls : ls = done ++ (a ++ x :: b) :: rest) (hi : (presL done ++ escL a).length = i) (hd : (esc x).length = d)
    (hv : w1.ownsRow w.heap.size 5 1 (.slice (some ⟨g1, 0, none⟩) (a.length + 1) cap1) (a.length + 1) ((a ++ [x]).map (Value.int .u8)))
    (hu : w1.ownsRow w.heap.size 5 1 (.slice wo (encL done).length wc) (encL done).length ((encL done).map (Value.int .u8))) (hsp : (Value.slice wo (encL done).length wc).ownBlock = none ∨ (Value.slice wo (encL done).length wc).ownBlock ≠ some g1) (hb : Below w.heap.size w w1) :
    RP ls w (.slice wo (encL done).length wc) (.slice (some ⟨g1, 0, none⟩) (a.length + 1) cap1) (.int .i64 ((i : Int) + d)) w1 := by
  have hal : (a ++ [x]).length = a.length + 1 := by simp
  refine ⟨done, a ++ [x], i + d, wo, some ⟨g1, 0, none⟩, wc, cap1, ?_, by go_num, rfl, by rw [hal], hu, by rw [hal]; exact hv, hsp.imp id fun h => ?_, hb, .inr ⟨b, rest, by simpa using hls⟩⟩
  · rw [← hi, ← hd, escL_append]; simp [escL]; omega
  · simpa [Value.ownBlock] using h
theorem digits_of (x : Int) (hx : 0 ≤ x ∧ x ≤ 255) : ∃ d1 d2 d3 : Int, d1 = 48 + x / 100 ∧ d2 = 48 + x / 10 % 10 ∧ d3 = 48 + x % 10 ∧ 48 ≤ d1 ∧ d1 ≤ 57 ∧ 48 ≤ d2 ∧ d2 ≤ 57 ∧ 48 ≤ d3 ∧ d3 ≤ 57 ∧
    (d1 - 48) * 100 + (d2 - 48) * 10 + (d3 - 48) = x ∧ (d1 - 48) * 100 + (d2 - 48) * 10 + (d3 - 48) ≤ 255 ∧ (x ≤ 32 → (d1 - 48) * 100 + (d2 - 48) * 10 + (d3 - 48) ≤ 32) ∧ (127 ≤ x → 127 ≤ (d1 - 48) * 100 + (d2 - 48) * 10 + (d3 - 48)) :=
  ⟨_, _, _, rfl, rfl, rfl, by omega, by omega, by omega, by omega, by omega, by omega, by omega, by omega, by omega, by omega⟩

set_option maxHeartbeats 4000000 in
set_option maxRecDepth 100000 in
theorem parse_nil (g off c : Nat) (w : World) (hp : w.cell? ⟨g, off, none⟩ = some (.int .u8 46)) :
    Calls Try.prog 14 #[.slice (some ⟨g, off, none⟩) 1 c] w fun e w' => ParseOut w [0] e w' := by
  go_enter Try.func14, Try.ntmps14
  go_wp2
  go_ret2
  refine parse_mk (n := 1) rfl ?_ ((Below.refl _ _).alloc (Nat.le_refl _) _)
  exact ⟨rfl, .inr ⟨w.heap.size, 1, #[.int .u8 0], rfl, Nat.le_refl _, heap_alloc_new w _, Nat.le_refl _, by decide, rfl, rfl⟩⟩

set_option maxHeartbeats 8000000 in
set_option maxRecDepth 100000 in
theorem parse_walk (ls : List (List Int)) (hne : ls ≠ []) (hl : ∀ l ∈ ls, 0 < l.length ∧ l.length ≤ 255) (hbytes : ∀ l ∈ ls, ∀ x ∈ l, 0 ≤ x ∧ x ≤ 255) (hen : (encL ls).length ≤ 255) (g off m c : Nat) (w : World) (hm : m = (presL ls).length)
    (hp : ∀ j x, (presL ls)[j]? = some x → w.cell? ⟨g, off + j, none⟩ = some (.int .u8 x)) :
    Calls Try.prog 14 #[.slice (some ⟨g, off, none⟩) m c] w fun e w' => ParseOut w (encL ls ++ [0]) e w' := by
  have hm1 : ((m : Int) == 1) = false := by
    cases ls with
    | nil => exact absurd rfl hne
    | cons l r =>
      have h1 := hl l (by simp)
      have h2 := escL_len l
      rw [hm]; apply beq_eq_false_iff_ne.2; simp [presL]; omega
  have hmb : m ≤ 1020 := by have := presL_len ls; omega
  have HM : Hid (m = (presL ls).length) := hm
  have HP : Hid (∀ j x, (presL ls)[j]? = some x → w.cell? ⟨g, off + j, none⟩ = some (.int .u8 x)) := hp
  have HL : Hid (∀ l ∈ ls, 0 < l.length ∧ l.length ≤ 255) := hl
  have HB : Hid (∀ l ∈ ls, ∀ x ∈ l, 0 ≤ x ∧ x ≤ 255) := hbytes
  clear hm hp hl hbytes
  go_enter Try.func14, Try.ntmps14
  go_wp2
  go_loopw [4, 5, 6] (fun wv lv iv wr => RP ls w wv lv iv wr) (fun _ _ iv _ => m - (intOf iv).toNat)
  case atStart => 
    refine ⟨[], [], 0, none, none, 0, 0, rfl, rfl, rfl, rfl, World.ownsRow_nil _ _ _ _, World.ownsRow_nil _ _ _ _, .inl rfl, Below.refl _ _, ?_⟩
    cases ls with
    | nil => exact absurd rfl hne
    | cons l r => exact .inr ⟨l, r, rfl⟩
  case round =>
    obtain ⟨done, a, i, wo, lo, wc, lc, hi, rfl, rfl, rfl, hwo, hlo, hsep, hbel, hst⟩ := hrel
    have HI : Hid ((presL done ++ escL a).length = i) := hi.symm
    clear hi
    rcases hst with ⟨rfl, rfl⟩ | ⟨b, rest, hls⟩
    · have hie : m ≤ i := by have h1 := HM.out; have h2 := HI.out; simp [escL] at h2; omega
      have hpos : 0 < (encL ls).length := by
        cases ls with
        | nil => exact absurd rfl hne
        | cons l r => simp [encL, enc1]
      have hz : (((encL ls).length : Int) == 0) = false := beq_eq_false_iff_ne.2 (by omega)
      have hsz := hbel.size
      go_wp2_with (at_builtin; refine wpList_append_pair (W := w) _ rfl (.tmp 158) (.tmp 159) rfl rfl (hbel.alloc hbel.size _) (hwo.alloc _) (hlo.alloc _) (sep_symm hsep) ⟨wr.heap.size, 0, none⟩ 1 1 [0] rfl rfl (by omega) (cell_news wr [0] 5) (by omega) ?_; intro g' cap' w' hv hu hsp hb' hle)
      go_ret2
      exact parse_mk (by simp) hv hb'
    · cases b with
      | nil =>
        have htx := pres_dot hls
        have hlm := HL.out (a ++ []) (by rw [hls]; simp)
        simp only [List.append_nil] at hlm
        have c0 : wr.cell? ⟨g, off + i, none⟩ = some (.int .u8 46) := by simpa using cell_at (mid := [46]) HP.out hbel htx HI.out 0 46 rfl
        have hlt : i < m := by have h1 := HM.out; rw [htx] at h1; have h2 := HI.out; simp at h1 h2; omega
        obtain ⟨_, _, hfo, hlc, hlmax, hlpos⟩ := own_form hlo
        simp only [Value.slice.injEq, true_and] at hfo
        obtain ⟨rfl, rfl⟩ := hfo
        obtain ⟨gl, rfl⟩ := hlpos hlm.1
        have hz : ((a.length : Int) == 0) = false := beq_eq_false_iff_ne.2 (by omega)
        have hend : (encL done).length ≤ 255 := by rw [hls, encL_append] at hen; simp at hen; omega
        have HLS : Hid (ls = done ++ (a ++ []) :: rest) := hls
        have hsz := hbel.size
        clear hls htx
        go_wp2_with (first
          | (at_builtin; refine wpList_append_pair (W := w) _ rfl (.tmp 38) (.tmp 42) rfl rfl (hbel.alloc hbel.size _) (hwo.alloc _) (hlo.alloc _) (sep_symm hsep) ⟨wr.heap.size, 0, none⟩ 1 1 [(a.length : Int)] rfl rfl (by omega) (cell_news wr [(a.length : Int)] 5) (by omega) ?_; intro g1 cap1 w1 hv1 hu1 hsp1 hb1 hle1)
          | (at_builtin; refine wpList_append_pair (W := w) _ rfl (.tmp 44) (.tmp 45) rfl rfl hb1 hv1 hu1 hsp1 ⟨gl, 0, none⟩ a.length _ a rfl rfl hlm.1 (fun j y hj => hu1.cells rfl j y hj) (by omega) ?_; intro g2 cap2 w2 hv2 hu2 hsp2 hb2 hle2))
        go_roundw
        case rel => exact rp_dot HLS.out HI.out hv2 hu2 hsp2 hb2
        case measure => simp [intOf]; omega
      | cons x b =>
        have htx := pres_char hls
        have hlm := HL.out (a ++ x :: b) (by rw [hls]; simp)
        have hal : a.length ≤ 255 := by simp at hlm; omega
        have hx := HB.out (a ++ x :: b) (by rw [hls]; simp) x (by simp)
        have hmi : i + (esc x).length < m := by have h1 := HM.out; rw [htx] at h1; have h2 := HI.out; simp at h1 h2; omega
        have hcell := fun j y (h : (esc x)[j]? = some y) => cell_at HP.out hbel htx HI.out j y h
        have HLS : Hid (ls = done ++ (a ++ x :: b) :: rest) := hls
        have hsz := hbel.size
        clear hls htx
        cases hsp : special x
        · obtain ⟨n1, n2, n3, n4, n5, n6, n7, n8⟩ := not_special hsp
          by_cases hct : x ≤ 32 ∨ 127 ≤ x
          · have he := esc_ctl hsp hct
            rw [← he] at hmi hcell
            have HE : Hid ([92, 48 + x / 100, 48 + x / 10 % 10, 48 + x % 10] = esc x) := he
            obtain ⟨d1, d2, d3, hd1, hd2, hd3, hb1, hb2, hb3, hb4, hb5, hb6, hv, hv0, hv1, hv2⟩ := digits_of x hx
            rw [← hd1, ← hd2, ← hd3] at hcell
            have HV : Hid ((d1 - 48) * 100 + (d2 - 48) * 10 + (d3 - 48) = x) := hv
            have c0 : wr.cell? ⟨g, off + i, none⟩ = some (.int .u8 92) := hcell 0 92 rfl
            have c1 : wr.cell? ⟨g, off + (i + 1), none⟩ = some (.int .u8 d1) := hcell 1 d1 rfl
            have c2 : wr.cell? ⟨g, off + (i + 2), none⟩ = some (.int .u8 d2) := hcell 2 d2 rfl
            have c3 : wr.cell? ⟨g, off + (i + 3), none⟩ = some (.int .u8 d3) := hcell 3 d3 rfl
            have hlen4 : i + 4 < m := by simpa using hmi
            have q1 : digit d1 = true := by simp [digit]; omega
            have q2 : digit d2 = true := by simp [digit]; omega
            have q3 : digit d3 = true := by simp [digit]; omega
            have k2 : (i : Int) + 2 < (m : Int) := by omega
            have k3 : (i : Int) + 3 < (m : Int) := by omega
            have k20 : (0 : Int) ≤ (i : Int) + 2 := by omega
            have k30 : (0 : Int) ≤ (i : Int) + 3 := by omega
            clear hcell he hsp hd1 hd2 hd3 hv
            rcases hct with hct | hct
            · have v1 := hv1 hct
              clear hv1 hv2 hct
              go_wp2_with (go_at_call 30; refine (digit_any _ _).mono ?_; rintro e w' ⟨rfl, rfl⟩)
              go_quiet (fail)
              go_wp2_with (at_builtin; refine wpList_append_pair (W := w) _ rfl (.tmp 119) (.tmp 122) rfl rfl ((below_drewN hbel _).alloc (below_drewN hbel _).size _) ((own_drewN hlo _).alloc _) ((own_drewN hwo _).alloc _) hsep ⟨wr.heap.size, 0, none⟩ 1 1 [(d1 - 48) * 100 + (d2 - 48) * 10 + (d3 - 48)] rfl rfl (by omega) (cell_news (wr.drewN _) [(d1 - 48) * 100 + (d2 - 48) * 10 + (d3 - 48)] 5) (by omega) ?_; intro g1 cap1 w1 hv1 hu1 hsp1 hb1 hle1)
              go_roundw
              case rel => exact rp_char (d := 4) HLS.out HI.out (by rw [← HE.out]; rfl) (by rw [HV.out] at hv1; exact hv1) hu1 hsp1 hb1
              case measure => simp [intOf]; omega
            · have v1 := hv2 hct
              clear hv1 hv2 hct
              go_wp2_with (go_at_call 30; refine (digit_any _ _).mono ?_; rintro e w' ⟨rfl, rfl⟩)
              go_quiet (fail)
              go_wp2_with (at_builtin; refine wpList_append_pair (W := w) _ rfl (.tmp 119) (.tmp 122) rfl rfl ((below_drewN hbel _).alloc (below_drewN hbel _).size _) ((own_drewN hlo _).alloc _) ((own_drewN hwo _).alloc _) hsep ⟨wr.heap.size, 0, none⟩ 1 1 [(d1 - 48) * 100 + (d2 - 48) * 10 + (d3 - 48)] rfl rfl (by omega) (cell_news (wr.drewN _) [(d1 - 48) * 100 + (d2 - 48) * 10 + (d3 - 48)] 5) (by omega) ?_; intro g1 cap1 w1 hv1 hu1 hsp1 hb1 hle1)
              go_roundw
              case rel => exact rp_char (d := 4) HLS.out HI.out (by rw [← HE.out]; rfl) (by rw [HV.out] at hv1; exact hv1) hu1 hsp1 hb1
              case measure => simp [intOf]; omega
          · have he := esc_self hsp hct
            rw [← he] at hmi hcell
            have HE : Hid ([x] = esc x) := he
            have c0 : wr.cell? ⟨g, off + i, none⟩ = some (.int .u8 x) := hcell 0 x rfl
            have hc1 : ¬ x ≤ 32 := by omega
            have hc2 : ¬ 127 ≤ x := by omega
            have hlen4 : i + 1 < m := by simpa using hmi
            clear hcell he hct
            go_wp2_with (first
              | (go_at_call 31; refine (special_any x _).mono ?_; rintro e w' ⟨rfl, rfl⟩)
              | (at_builtin; refine wpList_append_pair (W := w) _ rfl (.tmp 144) (.tmp 146) rfl rfl (hbel.alloc hbel.size _) (hlo.alloc _) (hwo.alloc _) hsep ⟨wr.heap.size, 0, none⟩ 1 1 [x] rfl rfl (by omega) (cell_news wr [x] 5) (by omega) ?_; intro g1 cap1 w1 hv1 hu1 hsp1 hb1 hle1))
            go_roundw
            case rel => exact rp_char (d := 1) HLS.out HI.out (by rw [← HE.out]; rfl) hv1 hu1 hsp1 hb1
            case measure => simp [intOf]; omega
        · have he := esc_sp hsp
          rw [← he] at hmi hcell
          have HE : Hid ([92, x] = esc x) := he
          have c0 : wr.cell? ⟨g, off + i, none⟩ = some (.int .u8 92) := hcell 0 92 rfl
          have c1 : wr.cell? ⟨g, off + (i + 1), none⟩ = some (.int .u8 x) := hcell 1 x rfl
          have hlen4 : i + 2 < m := by simpa using hmi
          have q1 : digit x = false := by have := is_special hsp; simp [digit]; omega
          clear hcell he
          go_wp2_with (first
            | (go_at_call 30; refine (digit_any x _).mono ?_; rintro e w' ⟨rfl, rfl⟩)
            | (go_at_call 31; refine (special_any x _).mono ?_; rintro e w' ⟨rfl, rfl⟩)
            | (at_builtin; refine wpList_append_pair (W := w) _ rfl (.tmp 128) (.tmp 130) rfl rfl (hbel.alloc hbel.size _) (hlo.alloc _) (hwo.alloc _) hsep ⟨wr.heap.size, 0, none⟩ 1 1 [x] rfl rfl (by omega) (cell_news wr [x] 5) (by omega) ?_; intro g1 cap1 w1 hv1 hu1 hsp1 hb1 hle1))
          go_roundw
          case rel => exact rp_char (d := 2) HLS.out HI.out (by rw [← HE.out]; rfl) hv1 hu1 hsp1 hb1
          case measure => simp [intOf]; omega
end Go.Proofs.Qxb6603969a
