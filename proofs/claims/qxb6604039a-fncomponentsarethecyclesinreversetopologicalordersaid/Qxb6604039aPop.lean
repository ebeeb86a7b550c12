import Derived.Test.Qxb6604039aTake
import Derived.Deep.DeepCutAuto
namespace Go.Proofs.Qxb6604039a
open Go.RowKit

theorem step_pop0 {g : List (List Nat)} {s : TS} {m k : Nat} (h : TInv g s) (hc : s.calls = [] ++ [(m, k)]) (hk : (sc g m).length ≤ k) (hne : s.low m ≠ s.ord m) : TInv g { s with calls := [], low := s.low } :=
  tinv_pop h hc hk hne s.low (fun q kq hq => absurd hq (by simp)) (fun q kq cs' e => absurd e (by simp))
theorem step_pop1 {g : List (List Nat)} {s : TS} {cs : List (Nat × Nat)} {q kq m k : Nat} (h : TInv g s) (hc : s.calls = (cs ++ [(q, kq)]) ++ [(m, k)]) (hk : (sc g m).length ≤ k) (hne : s.low m ≠ s.ord m) :
    TInv g { s with calls := cs ++ [(q, kq)], low := upd s.low q (min (s.low q) (s.low m)) } := by
  refine tinv_pop h hc hk hne _ (fun x kx hx => ?_) (fun x kx cs' e => ?_)
  · unfold upd
    split
    · rename_i e; subst e; omega
    · omega
  · have e2 := List.append_inj_right' e (by simp)
    simp at e2
    rw [← e2.1, upd_same]; omega
theorem top_lt {g : List (List Nat)} {s : TS} {cs : List (Nat × Nat)} {q kq m k : Nat} (h : TInv g s) (hc : s.calls = (cs ++ [(q, kq)]) ++ [(m, k)]) : s.ord q < s.ord m ∧ s.low q ≤ s.ord q ∧ q < g.length := by
  have hs := h.ca_sorted
  rw [hc] at hs
  refine ⟨(List.pairwise_append.1 hs).2.2 (q, kq) (by simp) (m, k) (by simp), (h.i3 q ⟨kq, by rw [hc]; simp⟩).1, h.st_lt (h.ca_mem q kq (by rw [hc]; simp)).1⟩

set_option maxHeartbeats 4000000 in
set_option maxRecDepth 1000000 in
theorem case_pop (bG n T r : Nat) (g : List (List Nat)) (w0 wr : World) (s : TS) (cs : List (Nat × Nat)) (m k : Nat) (x1 x2 x3 x8 x14 x15 x16 x17 x18 x19 x20 x21 x22 x23 x24 x25 x26 x27 x28 x29 x30 x31 x32 x33 x34 x35 x36 x37 x38 x39 x40 x41 x42 x43 x44 x45 x46 x47 x48 x49 x50 x51 x52 x53 x54 x55 x56 x57 x58 x59 x60 x61 x62 x63 x64 x65 x66 x67 x68 x69 x70 x71 x72 x73 x74 x75 x76 x77 x78 x79 x80 x81 x82 x83 x84 x85 x86 x87 x88 x89 x90 x91 x92 x93 x94 x95 x96 x97 x98 x99 x100 x101 x102 x103 x104 x105 x106 x107 x108 x109 x110 x111 x112 x113 x114 x115 x116 x117 x118 x119 x120 x121 x122 x123 x124 x125 x126 x127 x128 x129 x130 x131 x132 x133 x134 x135 x136 x137 x138 x139 x140 x141 x142 x143 x144 x145 x146 x147 x148 x149 x150 x151 x152 x153 x154 x155 x156 x157 x158 x159 x160 x161 x162 x163 x164 x165 x166 x167 x168 x169 x170 x171 x172 x173 x174 x175 x176 x177 x178 x179 x180 x181 x182 x183 x184 x185 x186 x187 x188 x189 x190 x191 x192 x193 x194 x195 x196 x197 x198 x199 x200 x201 : Value) (K : Act → World → Prop)
    (hn : n ≤ 1024) (hL : g.length = n) (hN : NodesAt wr bG n g) (hm : Mem wr T n s) (hi : TInv g s) (hvs : ∀ v, v ≤ r → 0 ≤ s.ord v) (hbel : Below T w0 wr)
    (hc : s.calls = cs ++ [(m, k)]) (hk : (sc g m).length ≤ k)
    (hK : ∀ (k' : Nat) (u12 u15 u16 u17 u18 u19 u20 u22 u61 u62 u63 u64 u65 u66 u67 u68 u69 u70 u71 u72 u73 u74 u75 u76 u77 u78 u79 u80 u81 u82 u83 u84 u85 u86 u87 u88 u89 u90 u91 u92 u93 u94 u95 u96 u97 u98 u99 u100 u101 u102 u103 u104 u105 u106 u107 u108 u109 u110 u111 u112 u113 u114 u115 u116 u117 u118 u119 u120 u121 u122 u123 u124 u125 u126 u127 u128 u129 u130 u131 u132 u133 u134 u135 u136 u137 u138 u139 u140 u141 u142 u143 u144 u145 u146 u147 u148 u149 u150 u151 u152 u153 u154 u155 u156 u157 u158 u159 u160 u161 u162 u163 u164 u165 u166 u167 u168 u169 u170 u171 u172 u173 u174 u175 u176 u177 u178 u179 u180 u181 u182 u183 u184 u185 u186 u187 u188 u189 u190 u191 u192 u193 u194 u195 u196 u197 u198 : Value) (w' : World), k' < s.meas g → Rel g n T r w0 k' u12 w' → K ⟨#[.slice (some ⟨bG, 0, none⟩) n n, x1, x2, x3, .pointer (some ⟨T + 1, 0, none⟩), .pointer (some ⟨T + 3, 0, none⟩), .slice (some ⟨T + 4, 0, none⟩) n n, .pointer (some ⟨T + 6, 0, none⟩), x8, .pointer (some ⟨T + 7, 0, none⟩), .pointer (some ⟨T + 8, 0, none⟩), .pointer (some ⟨T + 9, 0, none⟩), u12, .func (.func 30) #[] #[.pointer (some ⟨T + 9, 0, none⟩), .pointer (some ⟨T + 1, 0, none⟩), .pointer (some ⟨T + 3, 0, none⟩), .pointer (some ⟨T + 8, 0, none⟩), .pointer (some ⟨T + 6, 0, none⟩), .pointer (some ⟨T + 7, 0, none⟩)], x14, u15, u16, u17, u18, u19, u20, x21, u22, x23, x24, x25, x26, x27, x28, x29, x30, x31, x32, x33, x34, x35, x36, x37, x38, x39, x40, x41, x42, x43, x44, x45, x46, x47, x48, x49, x50, x51, x52, x53, x54, x55, x56, x57, x58, x59, x60, u61, u62, u63, u64, u65, u66, u67, u68, u69, u70, u71, u72, u73, u74, u75, u76, u77, u78, u79, u80, u81, u82, u83, u84, u85, u86, u87, u88, u89, u90, u91, u92, u93, u94, u95, u96, u97, u98, u99, u100, u101, u102, u103, u104, u105, u106, u107, u108, u109, u110, u111, u112, u113, u114, u115, u116, u117, u118, u119, u120, u121, u122, u123, u124, u125, u126, u127, u128, u129, u130, u131, u132, u133, u134, u135, u136, u137, u138, u139, u140, u141, u142, u143, u144, u145, u146, u147, u148, u149, u150, u151, u152, u153, u154, u155, u156, u157, u158, u159, u160, u161, u162, u163, u164, u165, u166, u167, u168, u169, u170, u171, u172, u173, u174, u175, u176, u177, u178, u179, u180, u181, u182, u183, u184, u185, u186, u187, u188, u189, u190, u191, u192, u193, u194, u195, u196, u197, u198, x199, x200, x201], []⟩ w') :
    Code.wp Try.prog body3 (Exit.then K fun _ _ _ => False) ⟨#[.slice (some ⟨bG, 0, none⟩) n n, x1, x2, x3, .pointer (some ⟨T + 1, 0, none⟩), .pointer (some ⟨T + 3, 0, none⟩), .slice (some ⟨T + 4, 0, none⟩) n n, .pointer (some ⟨T + 6, 0, none⟩), x8, .pointer (some ⟨T + 7, 0, none⟩), .pointer (some ⟨T + 8, 0, none⟩), .pointer (some ⟨T + 9, 0, none⟩), .int .i64 s.cnt, .func (.func 30) #[] #[.pointer (some ⟨T + 9, 0, none⟩), .pointer (some ⟨T + 1, 0, none⟩), .pointer (some ⟨T + 3, 0, none⟩), .pointer (some ⟨T + 8, 0, none⟩), .pointer (some ⟨T + 6, 0, none⟩), .pointer (some ⟨T + 7, 0, none⟩)], x14, x15, x16, x17, x18, x19, x20, x21, x22, x23, x24, x25, x26, x27, x28, x29, x30, x31, x32, x33, x34, x35, x36, x37, x38, x39, x40, x41, x42, x43, x44, x45, x46, x47, x48, x49, x50, x51, x52, x53, x54, x55, x56, x57, x58, x59, x60, x61, x62, x63, x64, x65, x66, x67, x68, x69, x70, x71, x72, x73, x74, x75, x76, x77, x78, x79, x80, x81, x82, x83, x84, x85, x86, x87, x88, x89, x90, x91, x92, x93, x94, x95, x96, x97, x98, x99, x100, x101, x102, x103, x104, x105, x106, x107, x108, x109, x110, x111, x112, x113, x114, x115, x116, x117, x118, x119, x120, x121, x122, x123, x124, x125, x126, x127, x128, x129, x130, x131, x132, x133, x134, x135, x136, x137, x138, x139, x140, x141, x142, x143, x144, x145, x146, x147, x148, x149, x150, x151, x152, x153, x154, x155, x156, x157, x158, x159, x160, x161, x162, x163, x164, x165, x166, x167, x168, x169, x170, x171, x172, x173, x174, x175, x176, x177, x178, x179, x180, x181, x182, x183, x184, x185, x186, x187, x188, x189, x190, x191, x192, x193, x194, x195, x196, x197, x198, x199, x200, x201], []⟩ wr := by
  have HK : Hid (∀ (k' : Nat) (u12 u15 u16 u17 u18 u19 u20 u22 u61 u62 u63 u64 u65 u66 u67 u68 u69 u70 u71 u72 u73 u74 u75 u76 u77 u78 u79 u80 u81 u82 u83 u84 u85 u86 u87 u88 u89 u90 u91 u92 u93 u94 u95 u96 u97 u98 u99 u100 u101 u102 u103 u104 u105 u106 u107 u108 u109 u110 u111 u112 u113 u114 u115 u116 u117 u118 u119 u120 u121 u122 u123 u124 u125 u126 u127 u128 u129 u130 u131 u132 u133 u134 u135 u136 u137 u138 u139 u140 u141 u142 u143 u144 u145 u146 u147 u148 u149 u150 u151 u152 u153 u154 u155 u156 u157 u158 u159 u160 u161 u162 u163 u164 u165 u166 u167 u168 u169 u170 u171 u172 u173 u174 u175 u176 u177 u178 u179 u180 u181 u182 u183 u184 u185 u186 u187 u188 u189 u190 u191 u192 u193 u194 u195 u196 u197 u198 : Value) (w' : World), k' < s.meas g → Rel g n T r w0 k' u12 w' → K ⟨#[.slice (some ⟨bG, 0, none⟩) n n, x1, x2, x3, .pointer (some ⟨T + 1, 0, none⟩), .pointer (some ⟨T + 3, 0, none⟩), .slice (some ⟨T + 4, 0, none⟩) n n, .pointer (some ⟨T + 6, 0, none⟩), x8, .pointer (some ⟨T + 7, 0, none⟩), .pointer (some ⟨T + 8, 0, none⟩), .pointer (some ⟨T + 9, 0, none⟩), u12, .func (.func 30) #[] #[.pointer (some ⟨T + 9, 0, none⟩), .pointer (some ⟨T + 1, 0, none⟩), .pointer (some ⟨T + 3, 0, none⟩), .pointer (some ⟨T + 8, 0, none⟩), .pointer (some ⟨T + 6, 0, none⟩), .pointer (some ⟨T + 7, 0, none⟩)], x14, u15, u16, u17, u18, u19, u20, x21, u22, x23, x24, x25, x26, x27, x28, x29, x30, x31, x32, x33, x34, x35, x36, x37, x38, x39, x40, x41, x42, x43, x44, x45, x46, x47, x48, x49, x50, x51, x52, x53, x54, x55, x56, x57, x58, x59, x60, u61, u62, u63, u64, u65, u66, u67, u68, u69, u70, u71, u72, u73, u74, u75, u76, u77, u78, u79, u80, u81, u82, u83, u84, u85, u86, u87, u88, u89, u90, u91, u92, u93, u94, u95, u96, u97, u98, u99, u100, u101, u102, u103, u104, u105, u106, u107, u108, u109, u110, u111, u112, u113, u114, u115, u116, u117, u118, u119, u120, u121, u122, u123, u124, u125, u126, u127, u128, u129, u130, u131, u132, u133, u134, u135, u136, u137, u138, u139, u140, u141, u142, u143, u144, u145, u146, u147, u148, u149, u150, u151, u152, u153, u154, u155, u156, u157, u158, u159, u160, u161, u162, u163, u164, u165, u166, u167, u168, u169, u170, u171, u172, u173, u174, u175, u176, u177, u178, u179, u180, u181, u182, u183, u184, u185, u186, u187, u188, u189, u190, u191, u192, u193, u194, u195, u196, u197, u198, x199, x200, x201], []⟩ w') := hK
  clear hK
  have hms : m ∈ s.stack := (hi.ca_mem m k (by rw [hc]; simp)).1
  have hkb : k ≤ 131072 := by
    have h1 := (hi.ca_mem m k (by rw [hc]; simp)).2
    obtain ⟨_, _, _, h2, _⟩ := hN.2 m (by have := hi.st_lt hms; omega)
    omega
  have hmn : m < n := by have := hi.st_lt hms; omega
  obtain ⟨ad, ca, y1, y2, _⟩ := hN.2 m hmn
  obtain ⟨gC, cap, q0, q1, q2, q3, q4, q5, q6⟩ := hm.top hc
  have z7 := q2.cell (i := 0) (by omega)
  have f7 := q2.frozen 0
  have hcl := hi.ca_le
  rw [hc, List.length_append, List.length_singleton] at hcl
  have hL1 : cs.length + 1 ≤ 1024 := by omega
  have HX : Hid (TInv g s ∧ (∀ v, v ≤ r → 0 ≤ s.ord v) ∧ s.calls = cs ++ [(m, k)] ∧ (sc g m).length ≤ k ∧ wr.ownsRow (T + 10) 75 2 (.slice (some ⟨gC, 0, none⟩) (cs.length + 1) cap) (cs.length + 1) (flat (cs ++ [(m, k)])) ∧ Mem wr T n s ∧ Below T w0 wr) := ⟨hi, hvs, hc, hk, q3, hm, hbel⟩
  have hkd : (sc g m).length ≤ k := hk
  clear hN hi hvs hc hk hms q2 q3 hcl hbel hm q6
  obtain ⟨d, hd⟩ : ∃ d, d = (sc g m).length := ⟨_, rfl⟩
  rw [← hd] at y1 y2 hkd
  clear hd
  obtain ⟨L, hL2⟩ : ∃ L, L = cs.length := ⟨_, rfl⟩
  have HM1 : Hid (Mem (wr.setCell ⟨T + 7, 0, none⟩ (.slice (some ⟨gC, 0, none⟩) L cap)) T n { s with calls := cs }) := by
    rw [hL2]
    refine HX.out.2.2.2.2.2.1.putCa (own_cut (ys := flat [(m, k)]) ?_ (flat_length cs) (Nat.le_succ _))
    rw [← flat_append]; exact HX.out.2.2.2.2.1
  have HO1 : Hid (cs ≠ [] → ∀ cs' q kq, cs = cs' ++ [(q, kq)] → (wr.setCell ⟨T + 7, 0, none⟩ (.slice (some ⟨gC, 0, none⟩) L cap)).cell? ⟨gC, cs'.length * 2, none⟩ = some (.int .i64 (q : Nat))) := by
    intro _ cs' q kq e
    rw [World.cell?_of_block (w := wr) (Below.heap_setCell _ _ _ _ (by simp; omega)), HX.out.2.2.2.2.1.cellAt _ (by rw [e]; simp; omega), e, flat_append, flat_append, List.append_assoc, List.getElem?_append_right (by rw [flat_length]; omega), flat_length, Nat.sub_self]
    rfl
  have HB1 : Hid (Below T w0 (wr.setCell ⟨T + 7, 0, none⟩ (.slice (some ⟨gC, 0, none⟩) L cap))) := Below.setCell HX.out.2.2.2.2.2.2 (by simp) _
  rw [← hL2] at z7 q1 q4 q5 hL1
  have HL : Hid (L = cs.length) := hL2
  clear hL2
  have i1 : (0 : Int) ≤ (L : Int) := by omega
  have i2 : (L : Int) < ((L + 1 : Nat) : Int) := by omega
  have i3 : (0 : Int) ≤ (m : Int) := by omega
  have i4 : (m : Int) < (n : Int) := by omega
  have i5 : ¬ (k : Int) < (d : Int) := by omega
  have i6 : (L : Int) ≤ (cap : Int) := by omega
  conv => arg 2; whnf
  go_upto_region 31 with fail
  rename_i Q' K1 hK1 K2 hK2
  have HK1 : Hid _ := hK1
  clear hK1
  obtain ⟨W1, hW1⟩ : ∃ W1, W1 = wr.setCell ⟨T + 7, 0, none⟩ (.slice (some ⟨gC, 0, none⟩) L cap) := ⟨_, rfl⟩
  have z8 : W1.cell? ⟨T + 7, 0, none⟩ = some (.slice (some ⟨gC, 0, none⟩) L cap) := by
    obtain ⟨v, r1, _⟩ := HX.out.2.2.2.2.2.1.ca
    rw [hW1]; exact (r1.put _).cell (i := 0) (by omega)
  rw [← hW1] at HM1 HO1 HB1 ⊢
  clear hW1 z7 f7 q4 q5 y1
  rcases List.eq_nil_or_concat cs with hcs | ⟨cs', qk, hcs⟩
  · subst hcs
    obtain rfl : L = 0 := HL.out
    have i7 : ¬ (0 : Int) < ((0 : Nat) : Int) := by omega
    go_wp2_with fail
    refine HK1.out _ _ ?_
    obtain ⟨hi, hvs, hc, hk, _, _, _⟩ := HX.out
    by_cases hlo : s.low m = s.ord m
    · exact tail_take bG n T r g w0 W1 s [] m k _ _ _ _ _ _ _ _ _ _ _ _ _ _ _ _ _ _ _ _ _ _ _ _ _ _ _ _ _ _ _ _ _ _ _ _ _ _ _ _ _ _ _ _ _ _ _ _ _ _ _ _ _ _ _ _ _ _ _ _ _ _ _ _ _ _ _ _ _ _ _ _ _ _ _ _ _ _ _ _ _ _ _ _ _ _ _ _ _ _ _ _ _ _ _ _ _ _ _ _ _ _ _ _ _ _ _ _ _ _ _ _ _ _ _ _ _ _ _ _ _ _ _ _ _ _ _ _ _ _ _ _ _ _ _ _ _ _ _ _ _ _ _ _ _ _ _ _ _ _ _ _ _ _ _ _ _ _ _ _ _ _ _ _ _ _ _ _ _ _ _ _ _ _ _ _ _ _ _ _ _ _ _ _ _ _ _ _ _ _ _ K hn hL HM1.out hi hvs HB1.out hc hk hlo HK.out
    · exact tail_black bG n T r g w0 W1 s [] m k s.low _ _ _ _ _ _ _ _ _ _ _ _ _ _ _ _ _ _ _ _ _ _ _ _ _ _ _ _ _ _ _ _ _ _ _ _ _ _ _ _ _ _ _ _ _ _ _ _ _ _ _ _ _ _ _ _ _ _ _ _ _ _ _ _ _ _ _ _ _ _ _ _ _ _ _ _ _ _ _ _ _ _ _ _ _ _ _ _ _ _ _ _ _ _ _ _ _ _ _ _ _ _ _ _ _ _ _ _ _ _ _ _ _ _ _ _ _ _ _ _ _ _ _ _ _ _ _ _ _ _ _ _ _ _ _ _ _ _ _ _ _ _ _ _ _ _ _ _ _ _ _ _ _ _ _ _ _ _ _ _ _ _ _ _ _ _ _ _ _ _ _ _ _ _ _ _ _ _ _ _ _ _ _ _ _ _ _ _ _ _ _ K hL HM1.out hi hvs HB1.out hc rfl hlo (step_pop0 hi hc hk hlo) HK.out
  · obtain ⟨q, kq⟩ := qk
    rw [List.concat_eq_append] at hcs
    subst hcs
    obtain ⟨L', hL'⟩ : ∃ L', L' = cs'.length := ⟨_, rfl⟩
    obtain rfl : L = L' + 1 := by rw [HL.out, hL']; simp
    have z9 : W1.cell? ⟨gC, L' * 2, none⟩ = some (.int .i64 (q : Nat)) := by rw [hL']; exact HO1.out (by simp) cs' q kq rfl
    obtain ⟨hqm, hlq, hqn⟩ := top_lt HX.out.1 HX.out.2.2.1
    have hqn : q < n := by omega
    have hqne : m ≠ q := by intro e; rw [e] at hqm; omega
    have Hq : Hid (s.ord q < s.ord m ∧ s.low q ≤ s.ord q) := ⟨hqm, hlq⟩
    have zA : W1.cell? ⟨T + 3, 0, none⟩ = some (.slice (some ⟨T + 2, 0, none⟩) n n) := HM1.out.xl.cell (i := 0) (by omega)
    have zB : W1.cell? ⟨T + 2, q, none⟩ = some (.int .i64 (s.low q)) := HM1.out.l.cell hqn
    have zC : W1.cell? ⟨T + 2, m, none⟩ = some (.int .i64 (s.low m)) := HM1.out.l.cell hmn
    have fB := HM1.out.l.frozen q
    have i7 : (0 : Int) < ((L' + 1 : Nat) : Int) := by omega
    have i8 : (0 : Int) ≤ (q : Int) := by omega
    have i9 : (q : Int) < (n : Int) := by omega
    have i10 : (0 : Int) ≤ (L' : Int) := by omega
    have i11 : (L' : Int) < ((L' + 1 : Nat) : Int) := by omega
    clear hL' hqm hlq i1 i2
    go_wp2_with fail
    go_region
    obtain ⟨M, hM⟩ : ∃ M : Int, M = if s.low m < s.low q then s.low m else s.low q := ⟨_, rfl⟩
    rw [← hM]
    obtain ⟨W2, hW2⟩ : ∃ W2, W2 = (W1.setCell ⟨T + 2, q, none⟩ (.int .i64 M)).drew := ⟨_, rfl⟩
    rw [← hW2]
    have HM2 : Hid (Mem W2 T n { s with calls := cs' ++ [(q, kq)], low := upd s.low q (min (s.low q) (s.low m)) }) := by
      rw [hW2, hM, min_if]
      exact (HM1.out.setL hqn _).drew
    have HB2 : Hid (Below T w0 W2) := by rw [hW2]; exact (Below.setCell HB1.out (by simp) _).drew
    clear hW2 hM
    go_wp2_with fail
    refine HK1.out _ _ ?_
    obtain ⟨hi, hvs, hc, hk, _, _, _⟩ := HX.out
    by_cases hlo : s.low m = s.ord m
    · refine tail_take bG n T r g w0 W2 s (cs' ++ [(q, kq)]) m k _ _ _ _ _ _ _ _ _ _ _ _ _ _ _ _ _ _ _ _ _ _ _ _ _ _ _ _ _ _ _ _ _ _ _ _ _ _ _ _ _ _ _ _ _ _ _ _ _ _ _ _ _ _ _ _ _ _ _ _ _ _ _ _ _ _ _ _ _ _ _ _ _ _ _ _ _ _ _ _ _ _ _ _ _ _ _ _ _ _ _ _ _ _ _ _ _ _ _ _ _ _ _ _ _ _ _ _ _ _ _ _ _ _ _ _ _ _ _ _ _ _ _ _ _ _ _ _ _ _ _ _ _ _ _ _ _ _ _ _ _ _ _ _ _ _ _ _ _ _ _ _ _ _ _ _ _ _ _ _ _ _ _ _ _ _ _ _ _ _ _ _ _ _ _ _ _ _ _ _ _ _ _ _ _ _ _ _ _ _ _ K hn hL (HM2.out.eq ?_) hi hvs HB2.out hc hk hlo HK.out
      have e : upd s.low q (min (s.low q) (s.low m)) = s.low := by
        funext v
        unfold upd
        split
        · rename_i e; subst e; have := Hq.out; omega
        · rfl
      rw [e]
    · exact tail_black bG n T r g w0 W2 s (cs' ++ [(q, kq)]) m k _ _ _ _ _ _ _ _ _ _ _ _ _ _ _ _ _ _ _ _ _ _ _ _ _ _ _ _ _ _ _ _ _ _ _ _ _ _ _ _ _ _ _ _ _ _ _ _ _ _ _ _ _ _ _ _ _ _ _ _ _ _ _ _ _ _ _ _ _ _ _ _ _ _ _ _ _ _ _ _ _ _ _ _ _ _ _ _ _ _ _ _ _ _ _ _ _ _ _ _ _ _ _ _ _ _ _ _ _ _ _ _ _ _ _ _ _ _ _ _ _ _ _ _ _ _ _ _ _ _ _ _ _ _ _ _ _ _ _ _ _ _ _ _ _ _ _ _ _ _ _ _ _ _ _ _ _ _ _ _ _ _ _ _ _ _ _ _ _ _ _ _ _ _ _ _ _ _ _ _ _ _ _ _ _ _ _ _ _ _ _ _ K hL HM2.out hi hvs HB2.out hc (upd_ne _ _ hqne) hlo (step_pop1 hi hc hk hlo) HK.out
end Go.Proofs.Qxb6604039a
