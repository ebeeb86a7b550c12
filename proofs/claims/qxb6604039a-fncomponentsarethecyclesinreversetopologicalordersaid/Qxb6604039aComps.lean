import Derived.Test.Qxb6604039aPop
import Derived.Deep.DeepCutAuto
import Derived.Deep.OwnRows
import Derived.Deep.LoopGhost
namespace Go.Proofs.Qxb6604039a
open Go.RowKit

/-- What components answers. -/
def COut (g : List (List Nat)) (n : Nat) (w : World) (e : Ending) (w' : World) : Prop :=
  ∃ (comp : Nat → Int) (cnt : Nat), e = .returned (.tuple #[.slice (some ⟨w.heap.size + 4, 0, none⟩) n n, .int .i64 cnt]) ∧ Row w' (w.heap.size + 4) 3 n (fun i => .int .i64 (comp i)) ∧ CInv g (fun v => v < g.length) comp cnt ∧ cnt ≤ n ∧ Below w.heap.size w w'
set_option maxHeartbeats 4000000 in
set_option maxRecDepth 100000 in
theorem comps_any (bG n : Nat) (g : List (List Nat)) (w : World) (hn : n ≤ 1024) (h : NodesAt w bG n g) :
    Calls Try.prog 27 #[.slice (some ⟨bG, 0, none⟩) n n] w fun e w' => COut g n w e w' := by
  obtain ⟨i3, hi3, hz03, hz13, hz23⟩ := info_parts Try.info3
  obtain ⟨i4, hi4, hz04, hz14, hz24⟩ := info_parts Try.info4
  have hmf : ∀ (fn : Fn) (first cap : Array Value) (w : World), (Instr.makeFunc fn first cap).run Try.prog w = .ok (.func fn first cap) w := fun _ _ _ _ => rfl
  have HG : Hid (NodesAt w bG n g) := h
  clear h
  go_enter Try.func27, Try.ntmps27
  go_wp2_with (at_make; first
    | exact wpList_make_row _ rfl _ _ 24 rfl 3 i3 (.int .i64 0) Try.underlying24 hi3 hz03 hz13 rfl _ _ n rfl rfl (by rw [hz23]; omega) (by omega) ?_
    | refine wpList_make_row _ rfl _ _ 24 rfl 3 i3 (.int .i64 0) Try.underlying24 hi3 hz03 hz13 rfl _ _ n rfl rfl (by rw [hz23]; omega) (by omega) ?_
    | refine wpList_make_row _ rfl _ _ 30 rfl 4 i4 (.bool false) Try.underlying30 hi4 hz04 hz14 rfl _ _ n rfl rfl (by rw [hz24]; omega) (by omega) ?_)
  simp only [Nat.add_assoc, Nat.reduceAdd]
  obtain ⟨W0, hW0⟩ : ∃ W0, W0 = ((((((w.alloc (Obj.cells (madeCells #[Value.int .i64 0] n) 3)).alloc
      (Obj.cells #[Value.slice (some ⟨w.heap.size, 0, none⟩) n n] 24)).alloc (Obj.cells (madeCells #[Value.int .i64 0] n) 3)).alloc
      (Obj.cells #[Value.slice (some ⟨w.heap.size + 2, 0, none⟩) n n] 24)).alloc (Obj.cells (madeCells #[Value.int .i64 0] n) 3)).alloc
      (Obj.cells (madeCells #[Value.bool false] n) 4)).alloc (Obj.cells #[Value.slice (some ⟨w.heap.size + 5, 0, none⟩) n n] 30) := ⟨_, rfl⟩
  rw [← hW0]
  obtain ⟨hp0, hbw0⟩ := pre_start w n W0 hW0
  clear hW0
  go_loopw [37] (fun i wr => ∃ k : Nat, k ≤ n ∧ i = .int .i64 k ∧ Pre wr w.heap.size n k ∧ Below w.heap.size w wr) (fun i _ => n - (intOf i).toNat)
  case atStart => exact ⟨0, Nat.zero_le _, rfl, hp0, hbw0⟩
  case round =>
    clear hp0 hbw0
    obtain ⟨k, hk, rfl, hp, hbel⟩ := hrel
    by_cases hlt : k < n
    · have z1 := hp.xo.cell (i := 0) (by omega)
      have z2 := hp.o.cell hlt
      have f2 := hp.o.frozen k
      have z3 := hp.c.cell hlt
      have f3 := hp.c.frozen k
      have i0 : (0 : Int) ≤ (k : Int) := by omega
      have i1 : (k : Int) < (n : Int) := by omega
      have hp' := hp.next hlt
      clear hp
      go_wp2_with fail
      go_roundw
      case rel => exact ⟨k + 1, by omega, by go_num, hp', (hbel.setCell (by simp) _).setCell (by simp) _⟩
      case measure => simp [intOf]; omega
    · obtain rfl : n = k := by omega
      have hsz := hp.sz
      go_wp2_with fail
      simp only [Nat.add_assoc, Nat.reduceAdd]
      obtain ⟨W1, hW1⟩ : ∃ W1, W1 = ((wr.alloc (.cells #[.slice none 0 0] 73)).alloc (.cells #[.slice none 0 0] 24)).alloc (.cells #[.int .i64 0] 3) := ⟨_, rfl⟩
      rw [← hW1]
      obtain ⟨hm1, hb1⟩ : Mem W1 w.heap.size n (TS.init n fun _ => 0) ∧ Below w.heap.size w W1 := mem_start hp hbel hW1
      clear hp hbel hsz hW1
      have hL : g.length = n := HG.out.1
      obtain ⟨T, hT⟩ : ∃ T, T = w.heap.size := ⟨_, rfl⟩
      rw [← hT] at hm1 hb1 ⊢
      have HT : Hid (T = w.heap.size) := hT
      have ht0 : TInv g (TS.init n fun _ => 0) := hL ▸ tinv_init g _
      clear hT
      go_loopw [12, 50] (fun c i wr => ∃ (r : Nat) (s : TS), r ≤ n ∧ c = .int .i64 s.cnt ∧ i = .int .i64 r ∧ Mem wr T n s ∧ TInv g s ∧ Hid (s.calls = []) ∧ Hid (∀ v, v < r → 0 ≤ s.ord v) ∧ Below T w wr) (fun _ i _ => n - (intOf i).toNat)
      case atStart => exact ⟨0, TS.init n fun _ => 0, Nat.zero_le _, rfl, rfl, hm1, ht0, rfl, fun v hv => absurd hv (by omega), hb1⟩
      case round =>
        clear hm1 hb1 ht0
        obtain ⟨r, s, hr, rfl, rfl, hm, hi, hcn, hvs, hbel⟩ := hrel
        by_cases hlt : r < n
        · have z1 := hm.xo.cell (i := 0) (by omega)
          have z2 := hm.o.cell hlt
          have i0 : (0 : Int) ≤ (r : Int) := by omega
          have i1 : (r : Int) < (n : Int) := by omega
          by_cases hu : s.ord r = -1
          · have hub : (s.ord r != -1) = false := by simp [hu]
            go_wp2_with fail
            have hvq := hi.vis_eq
            have hcq := hi.cnt_le
            have hcl := hi.ca_le
            refine (enter_any T n r s wr hlt (by omega) (by omega) (by omega) hm).mono ?_
            rintro e w2 ⟨rfl, hm2, hb2⟩
            have hR : Rel g n T r w (TS.meas g (s.enter r)) (.int .i64 s.cnt) w2 := ⟨s.enter r, rfl, rfl, hm2, tinv_enter hi (by omega) hu (fun p hp => by
              obtain ⟨k, hp⟩ := hp; rw [hcn.out] at hp; simp at hp), fun v hv => by
                show 0 ≤ upd s.ord r s.vis v
                unfold upd; split
                · omega
                · rename_i hne; exact hvs.out v (by omega), hbel.trans hb2⟩
            clear hm2 hb2 hvq hcq hcl hm hi hcn hvs hbel z1 z2 hu hub
            go_wp2_with fail
            go_loopg [12] (TS.meas g (s.enter r)) (fun k c wr => Rel g n T r w k c wr)
            case atStart => exact hR
            case round =>
              clear hR
              obtain ⟨s, rfl, rfl, hm, hi, hvs, hbel⟩ := hrel
              rename_i J3 K3 hJ3 hK3
              have hN : NodesAt wr bG n g := HG.out.below (by rw [← HT.out]; exact hbel)
              rcases List.eq_nil_or_concat s.calls with hcs | ⟨cs, pk, hcs⟩
              · obtain ⟨v7, r7, o7⟩ := hm.ca
                have z7 := r7.cell (i := 0) (by omega)
                have z0 : ¬ (0 : Int) < ((0 : Nat) : Int) := by omega
                have HX : Hid (TInv g s ∧ (∀ v, v ≤ r → 0 ≤ s.ord v) ∧ s.calls = [] ∧ Mem wr T n s ∧ Below T w wr) := ⟨hi, hvs, hcs, hm, hbel⟩
                rw [hcs] at o7
                clear hm hi hvs hcs hbel hN
                rcases o7.2 with ⟨hv7, _⟩ | ⟨g7, cap7, cur7, hv7, _⟩
                · subst hv7
                  clear r7 o7
                  go_wp2_with fail
                  obtain ⟨hi, hvs, hcs, hm, hbel⟩ := HX.out
                  exact ⟨⟨r + 1, s, by omega, rfl, by go_num, hm, hi, hcs, fun v hv => hvs v (by omega), hbel⟩, by simp [intOf]; omega⟩
                · have hv7 : v7 = .slice (some ⟨g7, 0, none⟩) 0 cap7 := hv7
                  subst hv7
                  clear r7 o7
                  go_wp2_with fail
                  obtain ⟨hi, hvs, hcs, hm, hbel⟩ := HX.out
                  exact ⟨⟨r + 1, s, by omega, rfl, by go_num, hm, hi, hcs, fun v hv => hvs v (by omega), hbel⟩, by simp [intOf]; omega⟩
              · obtain ⟨p, k⟩ := pk
                rw [List.concat_eq_append] at hcs
                rcases Nat.lt_or_ge k (sc g p).length with hk | hk
                · exact Code.wp_mono (fun e a w h => by cases e <;> first | exact h | exact (h : False).elim) (case_edge bG n T r g w wr s cs p k _ _ _ _ _ _ _ _ _ _ _ _ _ _ _ _ _ _ _ _ _ _ _ _ _ _ _ _ _ _ _ _ _ _ _ _ _ _ _ _ _ _ _ _ _ _ _ _ _ _ _ _ _ _ _ _ _ _ _ _ _ _ _ _ _ _ _ _ _ _ _ _ _ _ _ _ _ _ _ _ _ _ _ _ _ _ _ _ _ _ _ _ _ _ _ _ _ _ _ _ _ _ _ _ _ _ _ _ _ _ _ _ _ _ _ _ _ _ _ _ _ _ _ _ _ _ _ _ _ _ _ _ _ _ _ _ _ _ _ _ _ _ _ _ _ _ _ _ _ _ _ _ _ _ _ _ _ _ _ _ _ _ _ _ _ _ _ _ _ _ _ _ _ _ _ _ _ _ _ _ _ _ _ _ _ _ _ _ _ _ _ _ _ K3 hn hL hN hm hi hvs hbel hcs (List.getElem?_eq_getElem hk) (fun k' _ _ _ _ _ _ _ _ _ _ _ _ _ _ _ _ _ _ _ _ _ _ _ _ _ _ _ _ _ _ _ _ _ _ _ _ _ _ _ _ _ _ _ _ _ _ _ _ _ _ _ _ _ _ _ _ _ _ _ _ _ _ _ _ _ _ _ _ _ _ _ _ _ _ _ _ _ _ _ _ _ _ _ _ _ _ _ _ _ _ _ _ _ _ _ _ _ _ _ _ _ _ _ _ _ _ _ _ _ _ _ _ _ _ _ _ _ _ _ _ _ _ _ _ _ _ _ _ _ _ _ _ _ _ _ _ _ _ _ _ _ _ _ _ _ _ w' hlt hR => hK3 _ _ (Handed.intro k' hlt (hJ3 _ _ _ (by (repeat apply Exists.intro); exact ⟨hR, rfl⟩)))))
                · exact Code.wp_mono (fun e a w h => by cases e <;> first | exact h | exact (h : False).elim) (case_pop bG n T r g w wr s cs p k _ _ _ _ _ _ _ _ _ _ _ _ _ _ _ _ _ _ _ _ _ _ _ _ _ _ _ _ _ _ _ _ _ _ _ _ _ _ _ _ _ _ _ _ _ _ _ _ _ _ _ _ _ _ _ _ _ _ _ _ _ _ _ _ _ _ _ _ _ _ _ _ _ _ _ _ _ _ _ _ _ _ _ _ _ _ _ _ _ _ _ _ _ _ _ _ _ _ _ _ _ _ _ _ _ _ _ _ _ _ _ _ _ _ _ _ _ _ _ _ _ _ _ _ _ _ _ _ _ _ _ _ _ _ _ _ _ _ _ _ _ _ _ _ _ _ _ _ _ _ _ _ _ _ _ _ _ _ _ _ _ _ _ _ _ _ _ _ _ _ _ _ _ _ _ _ _ _ _ _ _ _ _ _ _ _ _ _ _ _ _ _ K3 hn hL hN hm hi hvs hbel hcs hk (fun k' _ _ _ _ _ _ _ _ _ _ _ _ _ _ _ _ _ _ _ _ _ _ _ _ _ _ _ _ _ _ _ _ _ _ _ _ _ _ _ _ _ _ _ _ _ _ _ _ _ _ _ _ _ _ _ _ _ _ _ _ _ _ _ _ _ _ _ _ _ _ _ _ _ _ _ _ _ _ _ _ _ _ _ _ _ _ _ _ _ _ _ _ _ _ _ _ _ _ _ _ _ _ _ _ _ _ _ _ _ _ _ _ _ _ _ _ _ _ _ _ _ _ _ _ _ _ _ _ _ _ _ _ _ _ _ _ _ _ _ _ _ _ _ _ _ _ w' hlt hR => hK3 _ _ (Handed.intro k' hlt (hJ3 _ _ _ (by (repeat apply Exists.intro); exact ⟨hR, rfl⟩)))))
          · have hub : (s.ord r != -1) = true := bne_iff_ne.2 hu
            go_wp2_with fail
            exact ⟨⟨r + 1, s, by omega, rfl, by go_num, hm, hi, hcn, fun v hv => by
              rcases Nat.lt_or_ge v r with h | h
              · exact hvs.out v h
              · obtain rfl : v = r := by omega
                rcases hi.ordb v with h1 | h1
                · exact absurd h1 hu
                · exact h1.2.1, hbel⟩, by simp [intOf]; omega⟩
        · obtain rfl : n = r := by omega
          go_wp2_with fail
          obtain rfl : T = w.heap.size := HT.out
          go_ret2
          exact ⟨s.comp, s.cnt, rfl, hm.c, tinv_end hi hcn.out (by rw [hL]; exact hvs.out), by have := hi.cnt_le; omega, hbel⟩
end Go.Proofs.Qxb6604039a
