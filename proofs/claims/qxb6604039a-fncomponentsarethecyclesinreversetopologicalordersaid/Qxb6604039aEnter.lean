import Derived.Test.Qxb6604039aPush
import Derived.Deep.DeepCutAuto
namespace Go.Proofs.Qxb6604039a
open Go.RowKit

theorem cell_two_new (w : World) (x y : Value) (t : TypeId) : ∀ j u, [x, y][j]? = some u → (w.alloc (.cells #[x, y] t)).cell? ((⟨w.heap.size, 0, none⟩ : Addr).add j) = some u := by
  intro j u hj
  have e : (⟨w.heap.size, 0, none⟩ : Addr).add j = ⟨w.heap.size, j, none⟩ := by unfold Addr.add; split <;> simp_all
  rw [e, World.cell?_alloc_new]
  simpa using hj
def Hold (p : Prop) : Prop := p
theorem hold {p : Prop} (h : Hold p) : p := h
theorem Hold.mk {p : Prop} (h : p) : Hold p := h
def EOut (t n m : Nat) (s : TS) (w : World) (e : Ending) (w' : World) : Prop := e = .returned (.tuple #[]) ∧ Mem w' t n (s.enter m) ∧ Below t w w'
set_option maxHeartbeats 2000000 in
set_option maxRecDepth 100000 in
theorem enter_any (t n m : Nat) (s : TS) (w : World) (hm : m < n) (hvis : s.vis ≤ 1024) (hst : s.stack.length ≤ 1024) (hca : s.calls.length ≤ 1024) (h : Mem w t n s) :
    Calls Try.prog 30 #[.int .i64 m, .pointer (some ⟨t + 9, 0, none⟩), .pointer (some ⟨t + 1, 0, none⟩), .pointer (some ⟨t + 3, 0, none⟩), .pointer (some ⟨t + 8, 0, none⟩), .pointer (some ⟨t + 6, 0, none⟩), .pointer (some ⟨t + 7, 0, none⟩)] w fun e w' => EOut t n m s w e w' := by
  obtain ⟨i3, hi3, hz03, hz13, hz23⟩ := info_parts Try.info3
  obtain ⟨i75, hi75, hz075, hz175, hz275⟩ := info_parts Try.info75
  have HM : Hid (Mem w t n s) := h
  have z1 := h.xo.cell (i := 0) (by omega)
  have z2 := h.xl.cell (i := 0) (by omega)
  have z3 := h.v.cell (i := 0) (by omega)
  have z4 := h.o.cell hm
  have z5 := h.l.cell hm
  have f4 := h.o.frozen m
  have f5 := h.l.frozen m
  have i0 : (0 : Int) ≤ (m : Int) := by omega
  have i1 : (m : Int) < (n : Int) := by omega
  clear h
  go_enter Try.func30, Try.ntmps30
  go_wp2_with fail
  go_region_held3 (fun w' => w'.cell? ⟨t + 1, 0, none⟩ = some (.slice (some ⟨t, 0, none⟩) n n) ∧ w'.cell? ⟨t + 3, 0, none⟩ = some (.slice (some ⟨t + 2, 0, none⟩) n n) ∧ w'.cell? ⟨t + 9, 0, none⟩ = some (.int .i64 s.vis)) (simp [go_sem, *]) (fail)
  obtain ⟨W1, hW1⟩ : ∃ W1, W1 = ((w.setCell ⟨t, m, none⟩ (.int .i64 s.vis)).setCell ⟨t + 2, m, none⟩ (.int .i64 s.vis)).drew := ⟨_, rfl⟩
  rw [← hW1]
  have hm1 : Mem W1 t n { s with ord := upd s.ord m s.vis, low := upd s.low m s.vis } := by
    rw [hW1]; exact ((HM.out.setO hm _).setL hm _).drew
  have hb1 : Below t w W1 := by
    rw [hW1]; exact (((Below.refl _ _).setCell (by simp) _).setCell (by simp) _).drew
  clear hW1 z1 z2 z3 z4 z5 f4 f5
  have z3 : W1.cell? ⟨t + 9, 0, none⟩ = some (.int .i64 s.vis) := hm1.v.cell (i := 0) (by omega)
  have f3 := hm1.v.frozen 0
  have HM1 : Hid (Mem W1 t n { s with ord := upd s.ord m s.vis, low := upd s.low m s.vis }) := hm1
  clear hm1
  go_upto_region 2 with fail
  obtain ⟨W2, hW2⟩ : ∃ W2, W2 = W1.setCell ⟨t + 9, 0, none⟩ (.int .i64 ((s.vis : Int) + 1)) := ⟨_, rfl⟩
  rw [← hW2]
  have hm2 : Mem W2 t n { s with ord := upd s.ord m s.vis, low := upd s.low m s.vis, vis := s.vis + 1 } := by
    rw [hW2]; exact HM1.out.setV (s.vis + 1)
  have hb2 : Below t w W2 := by rw [hW2]; exact hb1.setCell (by simp) _
  clear hW2 z3 f3 HM1 hb1
  obtain ⟨v2, r2, o2⟩ := hm2.st
  have z6 : W2.cell? ⟨t + 8, 0, none⟩ = some v2 := r2.cell (i := 0) (by omega)
  have o2' : W2.ownsRow (t + 10) 3 1 v2 s.stack.length (ints s.stack) := o2
  have hsz : t + 10 ≤ W2.heap.size := by have := hm2.v.lt; omega
  have HM2 : Hid (Mem W2 t n { s with ord := upd s.ord m s.vis, low := upd s.low m s.vis, vis := s.vis + 1 }) := hm2
  have HO2 : Hid (W2.ownsRow (t + 10) 3 1 v2 s.stack.length (ints s.stack)) := o2'
  have f6 := r2.frozen 0
  clear hm2 o2 o2'
  go_wp2_with (at_builtin; refine hold ?_)
  refine Hold.mk ?_
  refine wpList_append_own_at _ rfl (.tmp 18) (.tmp 20) 24 rfl (t + 10) 3 i3 (.int .i64 0) 1 8 Try.underlying24 hi3 hz03 hz13 hz23 rfl (by decide) v2 s.stack.length _ rfl (HO2.out.alloc _) ⟨W2.heap.size, 0, none⟩ 1 1 [.int .i64 m] rfl rfl (cell_one_new _ _ _) (by intro u hu; simp at hu; subst hu; rfl) (by unfold maxLen; omega) (by omega) (by rw [World.size_alloc]; omega) ?_
  intro v' w' hown' hgrow _ _
  have r3 := (r2.alloc _).grown hgrow (own_ne HO2.out (by omega))
  have y6 : w'.cell? ⟨t + 8, 0, none⟩ = some v2 := r3.cell (i := 0) (by omega)
  have g6 := r3.frozen 0
  have hm3 : Mem (w'.setCell ⟨t + 8, 0, none⟩ v') t n { s with ord := upd s.ord m s.vis, low := upd s.low m s.vis, vis := s.vis + 1, stack := s.stack ++ [m] } := HM2.out.pushS HO2.out hgrow hown' rfl
  have hb3 : Below t w (w'.setCell ⟨t + 8, 0, none⟩ v') := (((hb2.alloc (by omega) _).grown hgrow (by rw [World.size_alloc]; omega) (fun k hk => by have := (HO2.out.lt k hk).1; omega))).setCell (by simp) _
  have HM3 : Hid (Mem (w'.setCell ⟨t + 8, 0, none⟩ v') t n { s with ord := upd s.ord m s.vis, low := upd s.low m s.vis, vis := s.vis + 1, stack := s.stack ++ [m] }) := hm3
  obtain ⟨g1, cap1, hv'⟩ : ∃ g cap, v' = .slice (some ⟨g, 0, none⟩) (s.stack.length + 1) cap := by
    rcases hown'.2 with ⟨_, h⟩ | ⟨g, cap, cur, h, _⟩
    · omega
    · exact ⟨g, cap, h⟩
  subst hv'
  clear hm3 hown' hgrow r3 r2 HO2 HM2 hb2 z6 f6
  go_upto_region 3 with fail
  obtain ⟨W4, hW4⟩ : ∃ W4, W4 = w'.setCell ⟨t + 8, 0, none⟩ (.slice (some ⟨g1, 0, none⟩) (s.stack.length + 1) cap1) := ⟨_, rfl⟩
  rw [← hW4] at HM3 hb3 ⊢
  clear hW4 y6 g6
  have z7 : W4.cell? ⟨t + 6, 0, none⟩ = some (.slice (some ⟨t + 5, 0, none⟩) n n) := HM3.out.xn.cell (i := 0) (by omega)
  have z8 := HM3.out.nn.cell hm
  have f8 := HM3.out.nn.frozen m
  go_upto_region 4 with fail
  obtain ⟨W5, hW5⟩ : ∃ W5, W5 = W4.setCell ⟨t + 5, m, none⟩ (.bool true) := ⟨_, rfl⟩
  rw [← hW5]
  have hm5 : Mem W5 t n { s with ord := upd s.ord m s.vis, low := upd s.low m s.vis, vis := s.vis + 1, stack := s.stack ++ [m], on := upd s.on m true } := by
    rw [hW5]; exact HM3.out.setN hm true
  have hb5 : Below t w W5 := by rw [hW5]; exact hb3.setCell (by simp) _
  clear hW5 z7 z8 f8 HM3 hb3
  obtain ⟨v5, r5, o5⟩ := hm5.ca
  have z9 : W5.cell? ⟨t + 7, 0, none⟩ = some v5 := r5.cell (i := 0) (by omega)
  have f9 := r5.frozen 0
  have hsz5 : t + 10 ≤ W5.heap.size := by have := hm5.v.lt; omega
  have HM5 : Hid (Mem W5 t n { s with ord := upd s.ord m s.vis, low := upd s.low m s.vis, vis := s.vis + 1, stack := s.stack ++ [m], on := upd s.on m true }) := hm5
  have HO5 : Hid (W5.ownsRow (t + 10) 75 2 v5 s.calls.length (flat s.calls)) := o5
  clear hm5 o5
  go_wp2_with (at_builtin; refine hold ?_)
  refine Hold.mk ?_
  refine wpList_append_own_at _ rfl (.tmp 25) (.tmp 28) 73 rfl (t + 10) 75 i75 (.agg #[.int .i64 0, .int .i64 0]) 2 16 Try.underlying73 hi75 hz075 hz175 hz275 rfl (by decide) v5 s.calls.length _ rfl (HO5.out.alloc _) ⟨W5.heap.size, 0, none⟩ 1 1 [.int .i64 m, .int .i64 0] rfl rfl (cell_two_new _ _ _ _) (by intro u hu; simp at hu; rcases hu with rfl | rfl <;> rfl) (by unfold maxLen; omega) (by omega) (by rw [World.size_alloc]; omega) ?_
  intro v' w' hown' hgrow _ _
  have r6 := (r5.alloc _).grown hgrow (own_ne HO5.out (by omega))
  have y6 : w'.cell? ⟨t + 7, 0, none⟩ = some v5 := r6.cell (i := 0) (by omega)
  have g6 := r6.frozen 0
  have hm6 : Mem (w'.setCell ⟨t + 7, 0, none⟩ v') t n (s.enter m) := (HM5.out.pushC HO5.out hgrow hown' rfl).ghost s.cnt (s.unv.erase m)
  have hb6 : Below t w (w'.setCell ⟨t + 7, 0, none⟩ v') := (((hb5.alloc (by omega) _).grown hgrow (by rw [World.size_alloc]; omega) (fun k hk => by have := (HO5.out.lt k hk).1; omega))).setCell (by simp) _
  have HM6 : Hid (Mem (w'.setCell ⟨t + 7, 0, none⟩ v') t n (s.enter m)) := hm6
  obtain ⟨g2, cap2, hv'⟩ : ∃ g cap, v' = .slice (some ⟨g, 0, none⟩) (s.calls.length + 1) cap := by
    rcases hown'.2 with ⟨_, h⟩ | ⟨g, cap, cur, h, _⟩
    · omega
    · exact ⟨g, cap, h⟩
  subst hv'
  clear hm6 hown' hgrow r6 r5 HO5 HM5 hb5 z9 f9
  go_wp2_with fail
  go_end0
  exact ⟨rfl, HM6.out, hb6⟩
end Go.Proofs.Qxb6604039a
