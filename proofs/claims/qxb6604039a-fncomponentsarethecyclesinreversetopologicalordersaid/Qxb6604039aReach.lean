import Derived.Test.Qxb6604039aReach0
import Derived.Deep.DeepCutAuto
import Derived.Deep.OwnRows
namespace Go.Proofs.Qxb6604039a
open Go.RowKit
theorem get_below {w w' : World} {B : Nat} (hb : Below B w w') (hB : w.heap.size ≤ B) {a : Addr} {v : Value} (h : w.cell? a = some v) : w'.cell? a = some v :=
  (World.cell?_of_block (hb.block a.block (Nat.lt_of_lt_of_le (World.block_lt_of_cell? w a h) hB))).trans h
/-- What zzReachAll answers. -/
def ReachAt (w : World) (R n : Nat) (g : List (List Nat)) : Prop :=
  ∀ i, i < n → ∃ (B : Nat) (f : Nat → Bool), w.cell? ⟨R, i, none⟩ = some (.slice (some ⟨B, 0, none⟩) n n) ∧ (∀ v, v < n → w.cell? ⟨B, v, none⟩ = some (.bool (f v))) ∧ ∀ v, v < n → (f v = true ↔ RP g i v)
def ROut (g : List (List Nat)) (n : Nat) (w : World) (e : Ending) (w' : World) : Prop :=
  e = .returned (.slice (some ⟨w.heap.size, 0, none⟩) n n) ∧ ReachAt w' w.heap.size n g ∧ Below w.heap.size w w'
set_option maxHeartbeats 4000000 in
set_option maxRecDepth 100000 in
theorem reach_any (a : Option Addr) (n : Nat) (g : List (List Nat)) (w : World) (hn : n ≤ 1024) (h : SuccAt w a n g) :
    Calls Try.prog 10 #[.slice a n n] w fun e w' => ROut g n w e w' := by
  obtain ⟨i3, hi3, hz03, hz13, hz23⟩ := info_parts Try.info3
  obtain ⟨i4, hi4, hz04, hz14, hz24⟩ := info_parts Try.info4
  obtain ⟨i30, hi30, hz030, hz130, hz230⟩ := info_parts Try.info30
  have HR : Hid (SuccAt w a n g) := h
  have hL : g.length = n := h.1
  clear h
  go_enter Try.func10, Try.ntmps10
  go_wp2_with (at_make; first
    | refine wpList_make_row _ rfl _ _ 28 rfl 30 i30 (.slice none 0 0) Try.underlying28 hi30 hz030 hz130 rfl _ _ n rfl rfl (by rw [hz230]; omega) (by omega) ?_
    | (refine wpList_make_own _ rfl _ _ 24 rfl (w.heap.size + 1) 3 i3 (.int .i64 0) 1 Try.underlying24 hi3 hz03 hz13 _ _ _ n rfl rfl (by omega) (by rw [hz23]; omega) (by unfold maxLen; omega) (by simp) ?_; intro W1 hown hgrow))
  obtain ⟨T, hT⟩ : ∃ T, T = w.heap.size := ⟨_, rfl⟩
  rw [← hT] at hown ⊢
  have hs0 : (w.alloc (.cells (madeCells #[.slice none 0 0] n) 30)).heap.size = T + 1 := by rw [hT]; simp
  rw [hs0] at hown
  have hgs := hgrow.size
  rw [hs0] at hgs
  have HT : Hid (T = w.heap.size) := hT
  have HO1 : Hid (W1.ownsRow (T + 1) 3 1 (.slice (some ⟨T + 1, 0, none⟩) 0 n) 0 (ints [])) := hown
  have HD1 : Hid (RDone W1 T n g 0 W1.heap.size) := by
    refine ⟨fun _ => .slice none 0 0, ?_, fun i hi => absurd hi (by omega)⟩
    rw [hT]; exact (row_make w _ n 30).grown hgrow (by simp)
  have HB1 : Hid (Below T w W1) := by
    rw [hT]; exact ((Below.refl _ _).alloc (Nat.le_refl _) _).grown hgrow (by simp) (fun k hk => by cases hk)
  clear hown hgrow hs0 hT
  go_loopw [5, 6] (fun qv i wr => ∃ (s gq cap : Nat) (q : List Nat), s ≤ n ∧ i = .int .i64 s ∧ qv = .slice (some ⟨gq, 0, none⟩) q.length cap ∧ Hid (wr.ownsRow (T + 1) 3 1 (.slice (some ⟨gq, 0, none⟩) q.length cap) q.length (ints q)) ∧ Hid (RDone wr T n g s wr.heap.size) ∧ Hid (Below T w wr) ∧ T + 1 ≤ wr.heap.size) (fun _ i _ => n - (intOf i).toNat)
  case atStart => exact ⟨0, T + 1, n, [], Nat.zero_le _, rfl, rfl, HO1.out, HD1.out, HB1.out, hgs⟩
  case round =>
    clear HO1 HD1 HB1 hgs
    obtain ⟨s, gq, cap, q, hs, rfl, rfl, HO, HD, HB, hsz⟩ := hrel
    by_cases hlt : s < n
    · have hTw2 : w.heap.size ≤ T := by rw [HT.out]; exact Nat.le_refl _
      obtain ⟨b, aw, cw, hx, y0, y2, y3⟩ := HR.out.2 s hlt
      subst hx
      have y1 := get_below (HB.out.alloc (by omega) (.cells (madeCells #[.bool false] n) 4)) hTw2 y0
      clear y0
      have i0 : (0 : Int) ≤ (s : Int) := by omega
      have i1 : (s : Int) < (n : Int) := by omega
      obtain ⟨l0, hl0⟩ : ∃ l0, l0 = q.length := ⟨_, rfl⟩
      obtain ⟨d, hd⟩ : ∃ d, d = (sc g s).length := ⟨_, rfl⟩
      have Hd : Hid (d = (sc g s).length) := hd
      rw [← hd] at y1 y2
      clear hd
      have HS2 : Hid (RI w (wr.alloc (.cells (madeCells #[.bool false] n) 4)) T wr.heap.size n g s (.slice (some ⟨gq, 0, none⟩) 0 cap) [] (fun _ => false)) := ri_start (by omega) HO.out HD.out HB.out
      rw [← hl0]
      clear hl0 HO HD HB
      have HY : Hid (∀ (j u : Nat), (sc g s)[j]? = some u → u < n ∧ ∃ b', aw = some ⟨b', 0, none⟩ ∧ w.cell? ⟨b', j, none⟩ = some (.int .i64 u)) := y3
      clear y3
      go_wp2_with (at_make; refine wpList_make_row _ rfl _ _ 30 rfl 4 i4 (.bool false) Try.underlying30 hi4 hz04 hz14 rfl _ _ n rfl rfl (by rw [hz24]; omega) (by omega) ?_)
      obtain ⟨B, hB⟩ : ∃ B, B = wr.heap.size := ⟨_, rfl⟩
      obtain ⟨W2, hW2⟩ : ∃ W2, W2 = wr.alloc (.cells (madeCells #[.bool false] n) 4) := ⟨_, rfl⟩
      rw [← hW2, ← hB] at HS2
      rw [← hW2, ← hB]
      clear hW2 hB y1
      go_loopw [5, 34] (fun qv i wr => ∃ (j gq cap : Nat) (q : List Nat) (seen : Nat → Bool), j ≤ d ∧ i = .int .i64 j ∧ qv = .slice (some ⟨gq, 0, none⟩) q.length cap ∧ Hid (RI w wr T B n g s (.slice (some ⟨gq, 0, none⟩) q.length cap) q seen) ∧ Hid (∀ i, i < j → ∀ u, (sc g s)[i]? = some u → u ∈ q)) (fun _ i _ => d - (intOf i).toNat)
      case atStart => exact ⟨0, gq, cap, [], fun _ => false, Nat.zero_le _, rfl, rfl, HS2.out, fun i hi => absurd hi (by omega)⟩
      case round =>
        clear HS2
        obtain ⟨j, gq, cap, q, seen, hj, rfl, rfl, HI, HJ⟩ := hrel
        by_cases hjd : j < d
        · obtain ⟨u, huj⟩ : ∃ u, (sc g s)[j]? = some u := ⟨(sc g s)[j]'(by have := Hd.out; omega), List.getElem?_eq_getElem _⟩
          obtain ⟨hun, b2, e2, w2⟩ := HY.out j u huj
          subst e2
          have w3 := get_below HI.out.bel hTw2 w2
          have zS := HI.out.row.cell hun
          have fS := HI.out.row.frozen u
          have k0 : (0 : Int) ≤ (j : Int) := by omega
          have k1 : (j : Int) < (d : Int) := by omega
          have k2 : (0 : Int) ≤ (u : Int) := by omega
          have k3 : (u : Int) < (n : Int) := by omega
          have HU : Hid ((sc g s)[j]? = some u) := huj
          clear huj w2
          by_cases hsu : seen u = true
          · rw [hsu] at zS
            go_wp2_with fail
            go_roundw
            case rel => exact ⟨j + 1, gq, cap, q, seen, by omega, by go_num, rfl, HI.out, fun i hi u' hu' => by
              rcases Nat.lt_or_ge i j with h | h
              · exact HJ.out i h u' hu'
              · obtain rfl : i = j := by omega
                rw [HU.out] at hu'; cases hu'
                exact HI.out.mem hsu⟩
            case measure => simp [intOf]; omega
          · have hsf : seen u = false := by simpa using hsu
            rw [hsf] at zS
            have hql : q.length ≤ 1024 := by have := HI.out.le; omega
            obtain ⟨l, hl⟩ : ∃ l, l = q.length := ⟨_, rfl⟩
            rw [← hl] at hql ⊢
            have Hl : Hid (l = q.length) := hl
            clear hl
            go_upto_region 14 with fail
            obtain ⟨W3, hW3⟩ : ∃ W3, W3 = wr.setCell ⟨B, u, none⟩ (.bool true) := ⟨_, rfl⟩
            rw [← hW3]
            have HO2 : Hid (W3.ownsRow (T + 1) 3 1 (.slice (some ⟨gq, 0, none⟩) l cap) l (ints q)) := by
              rw [hW3, Hl.out]; exact HI.out.own.kept (setCell_grown _ _ _) (.inr (own_ne_row HI.out.own HI.out.row (by decide)))
            have hTs : T + 1 ≤ W3.heap.size := by rw [hW3]; have := HI.out.row.lt; have := HI.out.hT; simp; omega
            have HW3 : Hid (W3 = wr.setCell ⟨B, u, none⟩ (.bool true)) := hW3
            clear hW3
            go_wp2_with (at_builtin; refine hold ?_)
            refine Hold.mk ?_
            refine wpList_append_own_at _ rfl (.tmp 46) (.tmp 48) 24 rfl (T + 1) 3 i3 (.int .i64 0) 1 8 Try.underlying24 hi3 hz03 hz13 hz23 rfl (by decide) (.slice (some ⟨gq, 0, none⟩) l cap) l _ rfl (HO2.out.alloc _) ⟨W3.heap.size, 0, none⟩ 1 1 [.int .i64 u] rfl rfl (cell_one_new _ _ _) (by intro x hx; simp at hx; subst hx; rfl) (by unfold maxLen; omega) (by omega) (by rw [World.size_alloc]; omega) ?_
            intro v' w' hown' hgrow _ _
            have HI2 : Hid (RI w w' T B n g s v' (q ++ [u]) (upd seen u true)) := by
              rw [HW3.out] at hgrow
              rw [Hl.out] at hown' hgrow
              exact HI.out.add hun hL hsf (⟨u, List.mem_of_getElem? HU.out, .refl _⟩) _ hgrow hown'
            obtain ⟨gq', cap', hv'⟩ : ∃ g cap, v' = .slice (some ⟨g, 0, none⟩) (l + 1) cap := by
              rcases hown'.2 with ⟨_, h⟩ | ⟨g, cap, cur, h, _⟩
              · omega
              · exact ⟨g, cap, h⟩
            subst hv'
            clear hown' hgrow
            go_wp2_with fail
            go_roundw
            case rel =>
              have e : l + 1 = (q ++ [u]).length := by simp [Hl.out]
              rw [e] at HI2 ⊢
              exact ⟨j + 1, gq', cap', q ++ [u], upd seen u true, by omega, by go_num, rfl, HI2.out, fun i hi u' hu' => by
                rcases Nat.lt_or_ge i j with h | h
                · exact List.mem_append_left _ (HJ.out i h u' hu')
                · obtain rfl : i = j := by omega
                  rw [HU.out] at hu'; cases hu'
                  simp⟩
            case measure => simp [intOf]; omega
        · obtain rfl : d = j := by omega
          have HA : Hid (∀ u ∈ sc g s, u ∈ q) := fun u hu => by
            obtain ⟨i, hi, e⟩ := List.getElem_of_mem hu
            exact HJ.out i (by rw [Hd.out]; exact hi) u (by rw [List.getElem?_eq_getElem hi, e])
          have Hdd : Hid (∀ v ∈ ([] : List Nat), v ∈ q) := fun v hv => by cases hv
          clear HJ
          go_wp2_with fail
          go_loopw [5, 10] (fun qv i wr => ∃ (h gq cap : Nat) (q : List Nat) (seen : Nat → Bool), h ≤ q.length ∧ i = .int .i64 h ∧ qv = .slice (some ⟨gq, 0, none⟩) q.length cap ∧ Hid (RI w wr T B n g s (.slice (some ⟨gq, 0, none⟩) q.length cap) q seen) ∧ Hid (∀ u ∈ sc g s, u ∈ q) ∧ Hid (∀ i, i < h → ∀ v, q[i]? = some v → ∀ u ∈ sc g v, u ∈ q)) (fun _ i _ => n - (intOf i).toNat)
          case atStart => exact ⟨0, gq, cap, q, seen, Nat.zero_le _, rfl, rfl, HI.out, HA.out, fun i hi => absurd hi (by omega)⟩
          case round =>
            clear HI HA
            obtain ⟨h, gq, cap, q, seen, hh, rfl, rfl, HI, HA, HQ⟩ := hrel
            have hqn : q.length ≤ n := by have := HI.out.le; omega
            by_cases hhl : h < q.length
            · obtain ⟨v, hv⟩ : ∃ v, q[h]? = some v := ⟨q[h], List.getElem?_eq_getElem hhl⟩
              have hvq : RP g s v ∧ v < n := by
                obtain ⟨unv, hb⟩ := HI.out.inv
                have := hb.rp v (List.mem_of_getElem? hv)
                exact ⟨this.1, by omega⟩
              have hvn := hvq.2
              obtain ⟨b9, av, cv, hb9, yv0, yv2, yv3⟩ := HR.out.2 v hvn
              cases hb9
              have yv1 := get_below HI.out.bel hTw2 yv0
              have zq : wr.cell? ⟨gq, h, none⟩ = some (.int .i64 (v : Nat)) := by
                rw [HI.out.own.cellAt _ (by omega)]; simp [ints, hv]
              obtain ⟨dv, hdv⟩ : ∃ dv, dv = (sc g v).length := ⟨_, rfl⟩
              rw [← hdv] at yv1 yv2
              have Hdv : Hid (dv = (sc g v).length) := hdv
              have HYv : Hid (∀ (j u : Nat), (sc g v)[j]? = some u → u < n ∧ ∃ b', av = some ⟨b', 0, none⟩ ∧ w.cell? ⟨b', j, none⟩ = some (.int .i64 u)) := yv3
              have HV : Hid (q[h]? = some v ∧ RP g s v) := ⟨hv, hvq.1⟩
              have k0 : (0 : Int) ≤ (h : Int) := by omega
              have k1 : (h : Int) < (q.length : Int) := by omega
              have k2 : (0 : Int) ≤ (v : Int) := by omega
              have k3 : (v : Int) < (n : Int) := by omega
              obtain ⟨q0, hq0⟩ : ∃ q0, q0 = q := ⟨_, rfl⟩
              have H0 : Hid (q0[h]? = some v ∧ h < q0.length ∧ q0 = q ∧ (∀ u ∈ sc g s, u ∈ q0) ∧ (∀ i, i < h → ∀ v, q0[i]? = some v → ∀ u ∈ sc g v, u ∈ q0)) := by rw [hq0]; exact ⟨hv, hhl, rfl, HA.out, HQ.out⟩
              clear hv hdv yv0 yv3 hvq hq0 HA HQ
              go_wp2_with fail
              go_loopw [5, 66] (fun qv i wr => ∃ (j gq cap : Nat) (q : List Nat) (seen : Nat → Bool), j ≤ dv ∧ i = .int .i64 j ∧ qv = .slice (some ⟨gq, 0, none⟩) q.length cap ∧ Hid (RI w wr T B n g s (.slice (some ⟨gq, 0, none⟩) q.length cap) q seen) ∧ Hid (∃ t, q = q0 ++ t) ∧ Hid (∀ i, i < j → ∀ u, (sc g v)[i]? = some u → u ∈ q)) (fun _ i _ => dv - (intOf i).toNat)
              case atStart => exact ⟨0, gq, cap, q, seen, Nat.zero_le _, rfl, rfl, HI.out, ⟨[], by rw [H0.out.2.2.1]; simp⟩, fun i hi => absurd hi (by omega)⟩
              case round =>
                clear HI HV zq yv1 k1
                obtain ⟨j, gq, cap, q, seen, hj, rfl, rfl, HI, HT2, HJ⟩ := hrel
                by_cases hjd : j < dv
                · obtain ⟨u, huj⟩ : ∃ u, (sc g v)[j]? = some u := ⟨(sc g v)[j]'(by have := Hdv.out; omega), List.getElem?_eq_getElem _⟩
                  obtain ⟨hun, b2, e2, w2⟩ := HYv.out j u huj
                  subst e2
                  have w3 := get_below HI.out.bel hTw2 w2
                  have zS := HI.out.row.cell hun
                  have fS := HI.out.row.frozen u
                  have m0 : (0 : Int) ≤ (j : Int) := by omega
                  have m1 : (j : Int) < (dv : Int) := by omega
                  have m2 : (0 : Int) ≤ (u : Int) := by omega
                  have m3 : (u : Int) < (n : Int) := by omega
                  have HU : Hid ((sc g v)[j]? = some u) := huj
                  clear huj w2
                  by_cases hsu : seen u = true
                  · rw [hsu] at zS
                    go_wp2_with fail
                    go_roundw
                    case rel => exact ⟨j + 1, gq, cap, q, seen, by omega, by go_num, rfl, HI.out, HT2.out, fun i hi u' hu' => by
                      rcases Nat.lt_or_ge i j with h | h
                      · exact HJ.out i h u' hu'
                      · obtain rfl : i = j := by omega
                        rw [HU.out] at hu'; cases hu'
                        exact HI.out.mem hsu⟩
                    case measure => simp [intOf]; omega
                  · have hsf : seen u = false := by simpa using hsu
                    rw [hsf] at zS
                    have hql : q.length ≤ 1024 := by have := HI.out.le; omega
                    obtain ⟨l, hl⟩ : ∃ l, l = q.length := ⟨_, rfl⟩
                    rw [← hl] at hql ⊢
                    have Hl : Hid (l = q.length) := hl
                    clear hl
                    go_upto_region 25 with fail
                    obtain ⟨W3, hW3⟩ : ∃ W3, W3 = wr.setCell ⟨B, u, none⟩ (.bool true) := ⟨_, rfl⟩
                    rw [← hW3]
                    have HO2 : Hid (W3.ownsRow (T + 1) 3 1 (.slice (some ⟨gq, 0, none⟩) l cap) l (ints q)) := by
                      rw [hW3, Hl.out]; exact HI.out.own.kept (setCell_grown _ _ _) (.inr (own_ne_row HI.out.own HI.out.row (by decide)))
                    have hTs : T + 1 ≤ W3.heap.size := by rw [hW3]; have := HI.out.row.lt; have := HI.out.hT; simp; omega
                    have HW3 : Hid (W3 = wr.setCell ⟨B, u, none⟩ (.bool true)) := hW3
                    clear hW3
                    go_wp2_with (at_builtin; refine hold ?_)
                    refine Hold.mk ?_
                    refine wpList_append_own_at _ rfl (.tmp 78) (.tmp 80) 24 rfl (T + 1) 3 i3 (.int .i64 0) 1 8 Try.underlying24 hi3 hz03 hz13 hz23 rfl (by decide) (.slice (some ⟨gq, 0, none⟩) l cap) l _ rfl (HO2.out.alloc _) ⟨W3.heap.size, 0, none⟩ 1 1 [.int .i64 u] rfl rfl (cell_one_new _ _ _) (by intro x hx; simp at hx; subst hx; rfl) (by unfold maxLen; omega) (by omega) (by rw [World.size_alloc]; omega) ?_
                    intro v' w' hown' hgrow _ _
                    have HI2 : Hid (RI w w' T B n g s v' (q ++ [u]) (upd seen u true)) := by
                      rw [HW3.out] at hgrow
                      rw [Hl.out] at hown' hgrow
                      exact HI.out.add hun hL hsf (by obtain ⟨unv, hb⟩ := HI.out.inv; obtain ⟨t, ht⟩ := HT2.out; exact (hb.rp v (by rw [ht]; exact List.mem_append_left _ (List.mem_of_getElem? H0.out.1))).1.edge (List.mem_of_getElem? HU.out)) _ hgrow hown'
                    obtain ⟨gq', cap', hv'⟩ : ∃ g cap, v' = .slice (some ⟨g, 0, none⟩) (l + 1) cap := by
                      rcases hown'.2 with ⟨_, h⟩ | ⟨g, cap, cur, h, _⟩
                      · omega
                      · exact ⟨g, cap, h⟩
                    subst hv'
                    clear hown' hgrow
                    go_wp2_with fail
                    go_roundw
                    case rel =>
                      have e : l + 1 = (q ++ [u]).length := by simp [Hl.out]
                      rw [e] at HI2 ⊢
                      exact ⟨j + 1, gq', cap', q ++ [u], upd seen u true, by omega, by go_num, rfl, HI2.out, by obtain ⟨t, ht⟩ := HT2.out; exact ⟨t ++ [u], by rw [ht, List.append_assoc]⟩, fun i hi u' hu' => by
                        rcases Nat.lt_or_ge i j with h | h
                        · exact List.mem_append_left _ (HJ.out i h u' hu')
                        · obtain rfl : i = j := by omega
                          rw [HU.out] at hu'; cases hu'
                          simp⟩
                    case measure => simp [intOf]; omega
                · obtain rfl : dv = j := by omega
                  have HE : Hid (h + 1 ≤ q.length ∧ (∀ u ∈ sc g s, u ∈ q) ∧ (∀ i, i < h + 1 → ∀ v, q[i]? = some v → ∀ u ∈ sc g v, u ∈ q)) := by
                    obtain ⟨t, ht⟩ := HT2.out
                    obtain ⟨h1, h2, _, h3, h4⟩ := H0.out
                    refine ⟨by rw [ht, List.length_append]; omega, fun u hu => by rw [ht]; exact List.mem_append_left _ (h3 u hu), fun i hi v' hv' u hu => ?_⟩
                    rw [ht, List.getElem?_append_left (by omega)] at hv'
                    rcases Nat.lt_or_ge i h with h5 | h5
                    · rw [ht]; exact List.mem_append_left _ (h4 i h5 v' hv' u hu)
                    · obtain rfl : i = h := by omega
                      rw [h1] at hv'; cases hv'
                      obtain ⟨i', hi', e⟩ := List.getElem_of_mem hu
                      exact HJ.out i' (by rw [Hdv.out]; exact hi') u (by rw [List.getElem?_eq_getElem hi', e])
                  go_wp2_with fail
                  go_roundw
                  case rel => exact ⟨h + 1, gq, cap, q, seen, HE.out.1, by go_num, rfl, HI.out, HE.out.2.1, HE.out.2.2⟩
                  case measure => simp [intOf]; omega
            · obtain rfl : q.length = h := by omega
              have zT := HI.out.done
              obtain ⟨vals, hrT, _⟩ := zT
              have zT := hrT.cell hlt
              have fT := hrT.frozen s
              clear hrT
              have HE : Hid (RDone (wr.setCell ⟨T, s, none⟩ (.slice (some ⟨B, 0, none⟩) n n)) T n g (s + 1) wr.heap.size) := HI.out.lay hlt HA.out (fun v hv u hu => by
                obtain ⟨i, hi, e⟩ := List.getElem_of_mem hv
                exact HQ.out i hi v (by rw [List.getElem?_eq_getElem hi, e]) u hu)
              go_wp2_with fail
              go_roundw
              case rel => exact ⟨s + 1, gq, cap, q, by omega, by go_num, rfl, ownsRow_setCell_below HI.out.own (by simp) _, by simpa using HE, Below.setCell HI.out.bel (by simp) _, by have := HI.out.row.lt; have := HI.out.hT; simp; omega⟩
              case measure => simp [intOf]; omega
    · obtain rfl : n = s := by omega
      go_wp2_with fail
      go_ret
      obtain rfl : T = w.heap.size := HT.out
      refine ⟨rfl, fun i hi => ?_, HB.out⟩
      obtain ⟨vals, hr, hv⟩ := HD.out
      obtain ⟨B, f, _, _, h1, h2, h3⟩ := hv i hi
      exact ⟨B, f, by rw [hr.cell hi, h1], fun v hvn => h2.cell hvn, h3⟩
end Go.Proofs.Qxb6604039a
