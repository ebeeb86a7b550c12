import Derived.Test.Qxb6603969aKeyC
namespace Go.Proofs.Qxb6603969a
open Go.RowKit

/-- What decodeKey hands back: the labels in lower case, each in a row of its own. -/
def DecOut (L : List (List Int)) (w : World) (e : Ending) (w' : World) : Prop :=
  ∃ lv vals, e = .returned (.tuple #[lv, .bool true]) ∧ w'.ownsRow w.heap.size 22 1 lv L.length vals ∧ Rows8 w' w.heap.size L vals lv (.slice none 0 0) ∧ Below w.heap.size w w'

theorem low_nz {x : Int} (hx : 0 ≤ x ∧ x ≤ 255) (h : x ≠ 0) : (low x == 0) = false ∧ (¬ 65 ≤ low x ∨ (65 ≤ low x ∧ ¬ low x ≤ 90)) ∧ 0 ≤ low x ∧ low x ≤ 255 := by
  refine ⟨beq_eq_false_iff_ne.2 ?_, ?_⟩
  · unfold low; split <;> omega
  · unfold low; split <;> omega

set_option maxHeartbeats 8000000 in
set_option maxRecDepth 100000 in
theorem decode_walk (L : List (List Int)) (hl : ∀ l ∈ L, 0 < l.length ∧ l.length ≤ 255) (hbytes : ∀ l ∈ L, ∀ x ∈ l, 0 ≤ x ∧ x ≤ 255) (hen : (encL L).length ≤ 255) (hfew : L.length ≤ 255) (g off m c : Nat) (w : World) (hm : m = (keyL L).length)
    (hp : ∀ j x, (keyL L)[j]? = some x → w.cell? ⟨g, off + j, none⟩ = some (.int .u8 x)) :
    Calls Try.prog 19 #[.slice (some ⟨g, off, none⟩) m c] w fun e w' => DecOut L w e w' := by
  have hmb : m ≤ 1020 := by have := keyL_len L; omega
  have HM : Hid (m = (keyL L).length) := hm
  have HP : Hid (∀ j x, (keyL L)[j]? = some x → w.cell? ⟨g, off + j, none⟩ = some (.int .u8 x)) := hp
  have HL : Hid (∀ l ∈ L, 0 < l.length ∧ l.length ≤ 255) := hl
  have HB : Hid (∀ l ∈ L, ∀ x ∈ l, 0 ≤ x ∧ x ≤ 255) := hbytes
  clear hm hp hl hbytes
  obtain ⟨i0, hi, hz0, hz1, hz2⟩ := info_parts Try.info5
  obtain ⟨j0, ji, jz0, jz1, jz2⟩ := info_parts Try.info22
  go_enter Try.func19, Try.ntmps19
  go_wp2
  go_loopw [4, 5, 6] (fun lv cv iv wr => RD L w lv cv iv wr) (fun _ _ iv _ => m - (intOf iv).toNat)
  case atStart =>
    refine ⟨[], [], 0, [], rfl, rfl, ⟨World.ownsRow_nil _ _ _ _, World.ownsRow_nil _ _ _ _, fun _ => rfl, ⟨rfl, fun j v h => by simp at h⟩, apart_nil _, Below.refl _ _, ?_⟩⟩
    cases L with
    | nil => exact .inl ⟨rfl, rfl⟩
    | cons l r => exact .inr ⟨l, r, rfl⟩
  case round =>
    obtain ⟨done, a, i, vals, hidx, rfl, h⟩ := hrel
    have HI : Hid ((keyL done ++ kescL a).length = i) := hidx.symm
    have HR : Hid (RDs L w done a vals u4 u5 wr) := h
    have hbel := h.below
    have hsz := hbel.size
    clear hidx
    rcases h.st with ⟨rfl, rfl⟩ | ⟨b, rest, hls⟩
    · have hie : m ≤ i := by have h1 := HM.out; have h2 := HI.out; simp [kescL] at h2; omega
      have hcn := h.cnil rfl
      have hq := fun w => run_neq_slice_nil_any (P := Try.prog) w 22 5 none 0 0 0 0 Try.underlying22
      clear h
      rw [hcn]
      go_wp2
      go_ret2
      exact ⟨_, vals, rfl, HR.out.lown, by rw [← hcn]; exact HR.out.rows, hbel⟩
    · cases b with
      | nil =>
        have htx := key_dot hls
        have hlm := HL.out (a ++ []) (by rw [hls]; simp)
        simp only [List.append_nil] at hlm
        have c0 : wr.cell? ⟨g, off + i, none⟩ = some (.int .u8 0) := by simpa using cell_at (mid := [0, 1]) HP.out hbel htx HI.out 0 0 rfl
        have c1 : wr.cell? ⟨g, off + (i + 1), none⟩ = some (.int .u8 1) := by simpa using cell_at (mid := [0, 1]) HP.out hbel htx HI.out 1 1 rfl
        have hlt : i + 1 < m := by have h1 := HM.out; rw [htx] at h1; have h2 := HI.out; simp at h1 h2; omega
        have hdl : done.length ≤ 255 := by rw [hls] at hfew; simp at hfew; omega
        have HLS : Hid (L = done ++ (a ++ []) :: rest) := hls
        obtain ⟨co, cc, hcf, _, _, _⟩ := own_form h.cown
        subst hcf
        clear hls htx
        go_wp2_with (at_builtin; refine wpList_append_own_at _ rfl (.tmp 36) (.tmp 38) 33 rfl w.heap.size 22 j0 (.slice none 0 0) 1 24 Try.underlying33 ji jz0 jz1 jz2 rfl (by decide) u4 done.length _ rfl (h.lown.alloc _) ⟨wr.heap.size, 0, none⟩ 1 1 [.slice co a.length cc] rfl rfl (cell_one_new _ _ _) (by intro u hu; simp at hu; subst hu; rfl) (by unfold maxLen; omega) (by omega) (by rw [World.size_alloc]; omega) ?_; intro v' w' hown' hgrow _ hat)
        go_roundw
        case rel => exact rd_push HLS.out HI.out (List.length_pos_iff.1 hlm.1) HR.out hown' hgrow hat
        case measure => simp [intOf]; omega
      | cons x b =>
        have htx := key_char hls
        have hlm := HL.out (a ++ x :: b) (by rw [hls]; simp)
        have hal : a.length ≤ 255 := by simp at hlm; omega
        have hx := HB.out (a ++ x :: b) (by rw [hls]; simp) x (by simp)
        have hmi : i + (kesc x).length < m := by have h1 := HM.out; rw [htx] at h1; have h2 := HI.out; simp at h1 h2; omega
        have hcell := fun j y (h : (kesc x)[j]? = some y) => cell_at HP.out hbel htx HI.out j y h
        have HLS : Hid (L = done ++ (a ++ x :: b) :: rest) := hls
        clear hls htx
        by_cases hz : x = 0
        · subst hz
          have c0 : wr.cell? ⟨g, off + i, none⟩ = some (.int .u8 0) := hcell 0 0 rfl
          have c1 : wr.cell? ⟨g, off + (i + 1), none⟩ = some (.int .u8 255) := hcell 1 255 rfl
          have hlen4 : i + 2 < m := hmi
          clear hcell
          go_wp2_with (at_builtin; refine wpList_append_own_at _ rfl (.tmp 31) (.tmp 32) 22 rfl w.heap.size 5 i0 (.int .u8 0) 1 1 Try.underlying22 hi hz0 hz1 hz2 rfl (by decide) u5 a.length _ rfl (h.cown.alloc _) ⟨wr.heap.size, 0, none⟩ 1 1 [.int .u8 0] rfl rfl (cell_one_new _ _ _) (by intro u hu; simp at hu; subst hu; rfl) (by unfold maxLen; omega) (by omega) (by rw [World.size_alloc]; omega) ?_; intro v' w' hown' hgrow _ hat)
          go_roundw
          case rel => exact rd_char (x := 0) (d := 2) HLS.out HI.out rfl HR.out hown' hgrow hat
          case measure => simp [intOf]; omega
        · have hke : [low x] = kesc x := kesc_nz hz
          rw [← hke] at hmi hcell
          have HK : Hid ([low x] = kesc x) := hke
          obtain ⟨n0, nup, l0, l1⟩ := low_nz hx hz
          have c0 : wr.cell? ⟨g, off + i, none⟩ = some (.int .u8 (low x)) := hcell 0 (low x) rfl
          have hlen4 : i + 1 < m := hmi
          clear hcell hz hke
          rcases nup with nup | ⟨nup1, nup2⟩
          all_goals
            go_wp2_with (at_builtin; refine wpList_append_own_at _ rfl (.tmp 48) (.tmp 50) 22 rfl w.heap.size 5 i0 (.int .u8 0) 1 1 Try.underlying22 hi hz0 hz1 hz2 rfl (by decide) u5 a.length _ rfl (h.cown.alloc _) ⟨wr.heap.size, 0, none⟩ 1 1 [.int .u8 (low x)] rfl rfl (cell_one_new _ _ _) (by intro u hu; simp at hu; subst hu; rfl) (by unfold maxLen; omega) (by omega) (by rw [World.size_alloc]; omega) ?_; intro v' w' hown' hgrow _ hat)
            go_roundw
            case rel => exact rd_char (d := 1) HLS.out HI.out (by rw [← HK.out]; rfl) HR.out hown' hgrow hat
            case measure => simp [intOf]; omega
end Go.Proofs.Qxb6603969a
