import Derived.Test.Qxb6604039aEdge
import Derived.Deep.DeepCutAuto
namespace Go.Proofs.Qxb6604039a
open Go.RowKit

theorem Mem.drewN {w : World} {t n : Nat} {s : TS} (h : Mem w t n s) (k : Nat) : Mem (w.drewN k) t n s := ⟨h.o, h.xo, h.l, h.xl, h.c, h.nn, h.xn, h.ca, h.st, h.v⟩
theorem below_drewN {B : Nat} {a w : World} (h : Below B a w) (k : Nat) : Below B a (w.drewN k) := ⟨h.os, h.tape, h.output, h.size, h.block⟩

/-- The first j nodes of the component are off the stack. -/
def clr (s : TS) (C : List Nat) (b : Bool) (j : Nat) : TS :=
  { s with on := fun v => if v ∈ C.take j then false else s.on v, comp := fun v => if v ∈ C.take j ∧ b = true then (s.cnt : Int) else s.comp v }
theorem clr_zero (s : TS) (C : List Nat) (b : Bool) : clr s C b 0 = s := by simp [clr]
theorem mem_take_succ {C : List Nat} {j x : Nat} (hx : C[j]? = some x) (v : Nat) : v ∈ C.take (j + 1) ↔ v ∈ C.take j ∨ v = x := by
  rw [List.take_add_one, hx]; simp
theorem clr_next {s : TS} {C : List Nat} {b : Bool} {j x : Nat} (hx : C[j]? = some x) :
    { clr s C b j with on := upd (clr s C b j).on x false, comp := if b = true then upd (clr s C b j).comp x (s.cnt : Int) else (clr s C b j).comp } = clr s C b (j + 1) := by
  unfold clr
  have e1 : upd (fun v => if v ∈ C.take j then false else s.on v) x false = fun v => if v ∈ C.take (j + 1) then false else s.on v := by
    funext v
    unfold upd
    by_cases e : v = x
    · rw [if_pos e, if_pos ((mem_take_succ hx v).2 (.inr e))]
    · rw [if_neg e]
      dsimp only
      by_cases hv : v ∈ C.take j
      · rw [if_pos hv, if_pos ((mem_take_succ hx v).2 (.inl hv))]
      · rw [if_neg hv, if_neg (fun h => ((mem_take_succ hx v).1 h).elim hv e)]
  have e2 : (if b = true then upd (fun v => if v ∈ C.take j ∧ b = true then (s.cnt : Int) else s.comp v) x (s.cnt : Int) else fun v => if v ∈ C.take j ∧ b = true then (s.cnt : Int) else s.comp v) = fun v => if v ∈ C.take (j + 1) ∧ b = true then (s.cnt : Int) else s.comp v := by
    cases b
    · simp
    · rw [if_pos rfl]
      funext v
      unfold upd
      by_cases e : v = x
      · rw [if_pos e, if_pos ⟨(mem_take_succ hx v).2 (.inr e), rfl⟩]
      · rw [if_neg e]
        dsimp only
        by_cases hv : v ∈ C.take j
        · rw [if_pos ⟨hv, rfl⟩, if_pos ⟨(mem_take_succ hx v).2 (.inl hv), rfl⟩]
        · rw [if_neg (fun h => hv h.1), if_neg (fun h => ((mem_take_succ hx v).1 h.1).elim hv e)]
  simp only [e1]
  rw [← e2]
theorem clr_take (s : TS) (cs : List (Nat × Nat)) (A B : List Nat) (m : Nat) (b : Bool) (hb : b = true ↔ B ≠ []) :
    { clr { s with calls := cs } (m :: B) b (B.length + 1) with stack := A, cnt := if b = true then s.cnt + 1 else s.cnt, unv := s.unv } = s.take cs A B m := by
  unfold clr TS.take
  have e : (m :: B).take (B.length + 1) = m :: B := List.take_of_length_le (by simp)
  rw [e]
  by_cases h : B = []
  · subst h
    have : b = false := by cases b; rfl; exact absurd rfl (hb.1 rfl)
    subst this; simp
  · have : b = true := hb.2 h
    subst this; simp [h]

set_option maxHeartbeats 4000000 in
set_option maxRecDepth 1000000 in
theorem tail_black (bG n T r : Nat) (g : List (List Nat)) (w0 wr : World) (s : TS) (cs : List (Nat × Nat)) (m k : Nat) (low' : Nat → Int) (x1 x2 x3 x8 x14 x15 x17 x18 x19 x20 x21 x22 x23 x24 x25 x26 x27 x28 x29 x30 x31 x32 x33 x34 x35 x36 x37 x38 x39 x40 x41 x42 x43 x44 x45 x46 x47 x48 x49 x50 x51 x52 x53 x54 x55 x56 x57 x58 x59 x60 x61 x62 x63 x64 x65 x66 x67 x68 x69 x70 x71 x72 x73 x74 x75 x76 x77 x78 x79 x80 x81 x82 x83 x84 x85 x86 x87 x88 x89 x90 x91 x92 x93 x94 x95 x96 x97 x98 x99 x100 x101 x102 x103 x104 x105 x106 x107 x108 x109 x110 x111 x112 x113 x114 x115 x116 x117 x118 x119 x120 x121 x122 x123 x124 x125 x126 x127 x128 x129 x130 x131 x132 x133 x134 x135 x136 x137 x138 x139 x140 x141 x142 x143 x144 x145 x146 x147 x148 x149 x150 x151 x152 x153 x154 x155 x156 x157 x158 x159 x160 x161 x162 x163 x164 x165 x166 x167 x168 x169 x170 x171 x172 x173 x174 x175 x176 x177 x178 x179 x180 x181 x182 x183 x184 x185 x186 x187 x188 x189 x190 x191 x192 x193 x194 x195 x196 x197 x198 x199 x200 x201 : Value) (K : Act → World → Prop)
    (hL : g.length = n) (hm : Mem wr T n { s with calls := cs, low := low' }) (hi : TInv g s) (hvs : ∀ v, v ≤ r → 0 ≤ s.ord v) (hbel : Below T w0 wr)
    (hc : s.calls = cs ++ [(m, k)]) (hlm : low' m = s.low m) (hne : s.low m ≠ s.ord m) (hti : TInv g { s with calls := cs, low := low' })
    (hK : ∀ (k' : Nat) (u12 u15 u16 u17 u18 u19 u20 u22 u61 u62 u63 u64 u65 u66 u67 u68 u69 u70 u71 u72 u73 u74 u75 u76 u77 u78 u79 u80 u81 u82 u83 u84 u85 u86 u87 u88 u89 u90 u91 u92 u93 u94 u95 u96 u97 u98 u99 u100 u101 u102 u103 u104 u105 u106 u107 u108 u109 u110 u111 u112 u113 u114 u115 u116 u117 u118 u119 u120 u121 u122 u123 u124 u125 u126 u127 u128 u129 u130 u131 u132 u133 u134 u135 u136 u137 u138 u139 u140 u141 u142 u143 u144 u145 u146 u147 u148 u149 u150 u151 u152 u153 u154 u155 u156 u157 u158 u159 u160 u161 u162 u163 u164 u165 u166 u167 u168 u169 u170 u171 u172 u173 u174 u175 u176 u177 u178 u179 u180 u181 u182 u183 u184 u185 u186 u187 u188 u189 u190 u191 u192 u193 u194 u195 u196 u197 u198 : Value) (w' : World), k' < s.meas g → Rel g n T r w0 k' u12 w' → K ⟨#[.slice (some ⟨bG, 0, none⟩) n n, x1, x2, x3, .pointer (some ⟨T + 1, 0, none⟩), .pointer (some ⟨T + 3, 0, none⟩), .slice (some ⟨T + 4, 0, none⟩) n n, .pointer (some ⟨T + 6, 0, none⟩), x8, .pointer (some ⟨T + 7, 0, none⟩), .pointer (some ⟨T + 8, 0, none⟩), .pointer (some ⟨T + 9, 0, none⟩), u12, .func (.func 30) #[] #[.pointer (some ⟨T + 9, 0, none⟩), .pointer (some ⟨T + 1, 0, none⟩), .pointer (some ⟨T + 3, 0, none⟩), .pointer (some ⟨T + 8, 0, none⟩), .pointer (some ⟨T + 6, 0, none⟩), .pointer (some ⟨T + 7, 0, none⟩)], x14, u15, u16, u17, u18, u19, u20, x21, u22, x23, x24, x25, x26, x27, x28, x29, x30, x31, x32, x33, x34, x35, x36, x37, x38, x39, x40, x41, x42, x43, x44, x45, x46, x47, x48, x49, x50, x51, x52, x53, x54, x55, x56, x57, x58, x59, x60, u61, u62, u63, u64, u65, u66, u67, u68, u69, u70, u71, u72, u73, u74, u75, u76, u77, u78, u79, u80, u81, u82, u83, u84, u85, u86, u87, u88, u89, u90, u91, u92, u93, u94, u95, u96, u97, u98, u99, u100, u101, u102, u103, u104, u105, u106, u107, u108, u109, u110, u111, u112, u113, u114, u115, u116, u117, u118, u119, u120, u121, u122, u123, u124, u125, u126, u127, u128, u129, u130, u131, u132, u133, u134, u135, u136, u137, u138, u139, u140, u141, u142, u143, u144, u145, u146, u147, u148, u149, u150, u151, u152, u153, u154, u155, u156, u157, u158, u159, u160, u161, u162, u163, u164, u165, u166, u167, u168, u169, u170, u171, u172, u173, u174, u175, u176, u177, u178, u179, u180, u181, u182, u183, u184, u185, u186, u187, u188, u189, u190, u191, u192, u193, u194, u195, u196, u197, u198, x199, x200, x201], []⟩ w') :
    Code.wp Try.prog tail3 (Exit.inBlock 5 (Exit.then K fun _ _ _ => False)) ⟨#[.slice (some ⟨bG, 0, none⟩) n n, x1, x2, x3, .pointer (some ⟨T + 1, 0, none⟩), .pointer (some ⟨T + 3, 0, none⟩), .slice (some ⟨T + 4, 0, none⟩) n n, .pointer (some ⟨T + 6, 0, none⟩), x8, .pointer (some ⟨T + 7, 0, none⟩), .pointer (some ⟨T + 8, 0, none⟩), .pointer (some ⟨T + 9, 0, none⟩), .int .i64 s.cnt, .func (.func 30) #[] #[.pointer (some ⟨T + 9, 0, none⟩), .pointer (some ⟨T + 1, 0, none⟩), .pointer (some ⟨T + 3, 0, none⟩), .pointer (some ⟨T + 8, 0, none⟩), .pointer (some ⟨T + 6, 0, none⟩), .pointer (some ⟨T + 7, 0, none⟩)], x14, x15, .int .i64 m, x17, x18, x19, x20, x21, x22, x23, x24, x25, x26, x27, x28, x29, x30, x31, x32, x33, x34, x35, x36, x37, x38, x39, x40, x41, x42, x43, x44, x45, x46, x47, x48, x49, x50, x51, x52, x53, x54, x55, x56, x57, x58, x59, x60, x61, x62, x63, x64, x65, x66, x67, x68, x69, x70, x71, x72, x73, x74, x75, x76, x77, x78, x79, x80, x81, x82, x83, x84, x85, x86, x87, x88, x89, x90, x91, x92, x93, x94, x95, x96, x97, x98, x99, x100, x101, x102, x103, x104, x105, x106, x107, x108, x109, x110, x111, x112, x113, x114, x115, x116, x117, x118, x119, x120, x121, x122, x123, x124, x125, x126, x127, x128, x129, x130, x131, x132, x133, x134, x135, x136, x137, x138, x139, x140, x141, x142, x143, x144, x145, x146, x147, x148, x149, x150, x151, x152, x153, x154, x155, x156, x157, x158, x159, x160, x161, x162, x163, x164, x165, x166, x167, x168, x169, x170, x171, x172, x173, x174, x175, x176, x177, x178, x179, x180, x181, x182, x183, x184, x185, x186, x187, x188, x189, x190, x191, x192, x193, x194, x195, x196, x197, x198, x199, x200, x201], []⟩ wr := by
  have HK : Hid (∀ (k' : Nat) (u12 u15 u16 u17 u18 u19 u20 u22 u61 u62 u63 u64 u65 u66 u67 u68 u69 u70 u71 u72 u73 u74 u75 u76 u77 u78 u79 u80 u81 u82 u83 u84 u85 u86 u87 u88 u89 u90 u91 u92 u93 u94 u95 u96 u97 u98 u99 u100 u101 u102 u103 u104 u105 u106 u107 u108 u109 u110 u111 u112 u113 u114 u115 u116 u117 u118 u119 u120 u121 u122 u123 u124 u125 u126 u127 u128 u129 u130 u131 u132 u133 u134 u135 u136 u137 u138 u139 u140 u141 u142 u143 u144 u145 u146 u147 u148 u149 u150 u151 u152 u153 u154 u155 u156 u157 u158 u159 u160 u161 u162 u163 u164 u165 u166 u167 u168 u169 u170 u171 u172 u173 u174 u175 u176 u177 u178 u179 u180 u181 u182 u183 u184 u185 u186 u187 u188 u189 u190 u191 u192 u193 u194 u195 u196 u197 u198 : Value) (w' : World), k' < s.meas g → Rel g n T r w0 k' u12 w' → K ⟨#[.slice (some ⟨bG, 0, none⟩) n n, x1, x2, x3, .pointer (some ⟨T + 1, 0, none⟩), .pointer (some ⟨T + 3, 0, none⟩), .slice (some ⟨T + 4, 0, none⟩) n n, .pointer (some ⟨T + 6, 0, none⟩), x8, .pointer (some ⟨T + 7, 0, none⟩), .pointer (some ⟨T + 8, 0, none⟩), .pointer (some ⟨T + 9, 0, none⟩), u12, .func (.func 30) #[] #[.pointer (some ⟨T + 9, 0, none⟩), .pointer (some ⟨T + 1, 0, none⟩), .pointer (some ⟨T + 3, 0, none⟩), .pointer (some ⟨T + 8, 0, none⟩), .pointer (some ⟨T + 6, 0, none⟩), .pointer (some ⟨T + 7, 0, none⟩)], x14, u15, u16, u17, u18, u19, u20, x21, u22, x23, x24, x25, x26, x27, x28, x29, x30, x31, x32, x33, x34, x35, x36, x37, x38, x39, x40, x41, x42, x43, x44, x45, x46, x47, x48, x49, x50, x51, x52, x53, x54, x55, x56, x57, x58, x59, x60, u61, u62, u63, u64, u65, u66, u67, u68, u69, u70, u71, u72, u73, u74, u75, u76, u77, u78, u79, u80, u81, u82, u83, u84, u85, u86, u87, u88, u89, u90, u91, u92, u93, u94, u95, u96, u97, u98, u99, u100, u101, u102, u103, u104, u105, u106, u107, u108, u109, u110, u111, u112, u113, u114, u115, u116, u117, u118, u119, u120, u121, u122, u123, u124, u125, u126, u127, u128, u129, u130, u131, u132, u133, u134, u135, u136, u137, u138, u139, u140, u141, u142, u143, u144, u145, u146, u147, u148, u149, u150, u151, u152, u153, u154, u155, u156, u157, u158, u159, u160, u161, u162, u163, u164, u165, u166, u167, u168, u169, u170, u171, u172, u173, u174, u175, u176, u177, u178, u179, u180, u181, u182, u183, u184, u185, u186, u187, u188, u189, u190, u191, u192, u193, u194, u195, u196, u197, u198, x199, x200, x201], []⟩ w') := hK
  clear hK
  have hms : m ∈ s.stack := (hi.ca_mem m k (by rw [hc]; simp)).1
  have hmn : m < n := by have := hi.st_lt hms; omega
  have z1 : wr.cell? ⟨T + 1, 0, none⟩ = some (.slice (some ⟨T, 0, none⟩) n n) := hm.xo.cell (i := 0) (by omega)
  have z2 : wr.cell? ⟨T, m, none⟩ = some (.int .i64 (s.ord m)) := hm.o.cell hmn
  have z3 : wr.cell? ⟨T + 3, 0, none⟩ = some (.slice (some ⟨T + 2, 0, none⟩) n n) := hm.xl.cell (i := 0) (by omega)
  have z4 : wr.cell? ⟨T + 2, m, none⟩ = some (.int .i64 (s.low m)) := by rw [← hlm]; exact hm.l.cell hmn
  have i1 : (0 : Int) ≤ (m : Int) := by omega
  have i2 : (m : Int) < (n : Int) := by omega
  have hb : (s.low m != s.ord m) = true := bne_iff_ne.2 hne
  have HX : Hid (Mem wr T n { s with calls := cs, low := low' } ∧ Below T w0 wr ∧ TInv g { s with calls := cs, low := low' } ∧ (∀ v, v ≤ r → 0 ≤ s.ord v) ∧ s.calls = cs ++ [(m, k)]) := ⟨hm, hbel, hti, hvs, hc⟩
  clear hm hbel hti hvs hc hi hms hlm hne
  conv => arg 2; whnf
  go_wp2_with fail
  go_quiet (fail)
  go_wp2_with fail
  obtain ⟨hm, hbel, hti, hvs, hc⟩ := HX.out
  exact HK.out _ _ _ _ _ _ _ _ _ _ _ _ _ _ _ _ _ _ _ _ _ _ _ _ _ _ _ _ _ _ _ _ _ _ _ _ _ _ _ _ _ _ _ _ _ _ _ _ _ _ _ _ _ _ _ _ _ _ _ _ _ _ _ _ _ _ _ _ _ _ _ _ _ _ _ _ _ _ _ _ _ _ _ _ _ _ _ _ _ _ _ _ _ _ _ _ _ _ _ _ _ _ _ _ _ _ _ _ _ _ _ _ _ _ _ _ _ _ _ _ _ _ _ _ _ _ _ _ _ _ _ _ _ _ _ _ _ _ _ _ _ _ _ _ _ _ _ _ (meas_pop (s' := { s with calls := cs, low := low' }) hc rfl rfl) ⟨{ s with calls := cs, low := low' }, rfl, rfl, hm.drewN nq, hti, hvs, below_drewN hbel nq⟩
end Go.Proofs.Qxb6604039a
