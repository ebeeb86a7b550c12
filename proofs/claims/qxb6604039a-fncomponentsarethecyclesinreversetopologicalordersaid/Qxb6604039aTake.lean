import Derived.Test.Qxb6604039aTail
import Derived.Deep.DeepCutAuto
namespace Go.Proofs.Qxb6604039a
open Go.RowKit

set_option maxHeartbeats 4000000 in
set_option maxRecDepth 1000000 in
theorem tail_take (bG n T r : Nat) (g : List (List Nat)) (w0 wr : World) (s : TS) (cs : List (Nat × Nat)) (m k : Nat) (x1 x2 x3 x8 x14 x15 x17 x18 x19 x20 x21 x22 x23 x24 x25 x26 x27 x28 x29 x30 x31 x32 x33 x34 x35 x36 x37 x38 x39 x40 x41 x42 x43 x44 x45 x46 x47 x48 x49 x50 x51 x52 x53 x54 x55 x56 x57 x58 x59 x60 x61 x62 x63 x64 x65 x66 x67 x68 x69 x70 x71 x72 x73 x74 x75 x76 x77 x78 x79 x80 x81 x82 x83 x84 x85 x86 x87 x88 x89 x90 x91 x92 x93 x94 x95 x96 x97 x98 x99 x100 x101 x102 x103 x104 x105 x106 x107 x108 x109 x110 x111 x112 x113 x114 x115 x116 x117 x118 x119 x120 x121 x122 x123 x124 x125 x126 x127 x128 x129 x130 x131 x132 x133 x134 x135 x136 x137 x138 x139 x140 x141 x142 x143 x144 x145 x146 x147 x148 x149 x150 x151 x152 x153 x154 x155 x156 x157 x158 x159 x160 x161 x162 x163 x164 x165 x166 x167 x168 x169 x170 x171 x172 x173 x174 x175 x176 x177 x178 x179 x180 x181 x182 x183 x184 x185 x186 x187 x188 x189 x190 x191 x192 x193 x194 x195 x196 x197 x198 x199 x200 x201 : Value) (K : Act → World → Prop)
    (hn : n ≤ 1024) (hL : g.length = n) (hm : Mem wr T n { s with calls := cs }) (hi : TInv g s) (hvs : ∀ v, v ≤ r → 0 ≤ s.ord v) (hbel : Below T w0 wr)
    (hc : s.calls = cs ++ [(m, k)]) (hk : (sc g m).length ≤ k) (heq : s.low m = s.ord m)
    (hK : ∀ (k' : Nat) (u12 u15 u16 u17 u18 u19 u20 u22 u61 u62 u63 u64 u65 u66 u67 u68 u69 u70 u71 u72 u73 u74 u75 u76 u77 u78 u79 u80 u81 u82 u83 u84 u85 u86 u87 u88 u89 u90 u91 u92 u93 u94 u95 u96 u97 u98 u99 u100 u101 u102 u103 u104 u105 u106 u107 u108 u109 u110 u111 u112 u113 u114 u115 u116 u117 u118 u119 u120 u121 u122 u123 u124 u125 u126 u127 u128 u129 u130 u131 u132 u133 u134 u135 u136 u137 u138 u139 u140 u141 u142 u143 u144 u145 u146 u147 u148 u149 u150 u151 u152 u153 u154 u155 u156 u157 u158 u159 u160 u161 u162 u163 u164 u165 u166 u167 u168 u169 u170 u171 u172 u173 u174 u175 u176 u177 u178 u179 u180 u181 u182 u183 u184 u185 u186 u187 u188 u189 u190 u191 u192 u193 u194 u195 u196 u197 u198 : Value) (w' : World), k' < s.meas g → Rel g n T r w0 k' u12 w' → K ⟨#[.slice (some ⟨bG, 0, none⟩) n n, x1, x2, x3, .pointer (some ⟨T + 1, 0, none⟩), .pointer (some ⟨T + 3, 0, none⟩), .slice (some ⟨T + 4, 0, none⟩) n n, .pointer (some ⟨T + 6, 0, none⟩), x8, .pointer (some ⟨T + 7, 0, none⟩), .pointer (some ⟨T + 8, 0, none⟩), .pointer (some ⟨T + 9, 0, none⟩), u12, .func (.func 30) #[] #[.pointer (some ⟨T + 9, 0, none⟩), .pointer (some ⟨T + 1, 0, none⟩), .pointer (some ⟨T + 3, 0, none⟩), .pointer (some ⟨T + 8, 0, none⟩), .pointer (some ⟨T + 6, 0, none⟩), .pointer (some ⟨T + 7, 0, none⟩)], x14, u15, u16, u17, u18, u19, u20, x21, u22, x23, x24, x25, x26, x27, x28, x29, x30, x31, x32, x33, x34, x35, x36, x37, x38, x39, x40, x41, x42, x43, x44, x45, x46, x47, x48, x49, x50, x51, x52, x53, x54, x55, x56, x57, x58, x59, x60, u61, u62, u63, u64, u65, u66, u67, u68, u69, u70, u71, u72, u73, u74, u75, u76, u77, u78, u79, u80, u81, u82, u83, u84, u85, u86, u87, u88, u89, u90, u91, u92, u93, u94, u95, u96, u97, u98, u99, u100, u101, u102, u103, u104, u105, u106, u107, u108, u109, u110, u111, u112, u113, u114, u115, u116, u117, u118, u119, u120, u121, u122, u123, u124, u125, u126, u127, u128, u129, u130, u131, u132, u133, u134, u135, u136, u137, u138, u139, u140, u141, u142, u143, u144, u145, u146, u147, u148, u149, u150, u151, u152, u153, u154, u155, u156, u157, u158, u159, u160, u161, u162, u163, u164, u165, u166, u167, u168, u169, u170, u171, u172, u173, u174, u175, u176, u177, u178, u179, u180, u181, u182, u183, u184, u185, u186, u187, u188, u189, u190, u191, u192, u193, u194, u195, u196, u197, u198, x199, x200, x201], []⟩ w') :
    Code.wp Try.prog tail3 (Exit.inBlock 5 (Exit.then K fun _ _ _ => False)) ⟨#[.slice (some ⟨bG, 0, none⟩) n n, x1, x2, x3, .pointer (some ⟨T + 1, 0, none⟩), .pointer (some ⟨T + 3, 0, none⟩), .slice (some ⟨T + 4, 0, none⟩) n n, .pointer (some ⟨T + 6, 0, none⟩), x8, .pointer (some ⟨T + 7, 0, none⟩), .pointer (some ⟨T + 8, 0, none⟩), .pointer (some ⟨T + 9, 0, none⟩), .int .i64 s.cnt, .func (.func 30) #[] #[.pointer (some ⟨T + 9, 0, none⟩), .pointer (some ⟨T + 1, 0, none⟩), .pointer (some ⟨T + 3, 0, none⟩), .pointer (some ⟨T + 8, 0, none⟩), .pointer (some ⟨T + 6, 0, none⟩), .pointer (some ⟨T + 7, 0, none⟩)], x14, x15, .int .i64 m, x17, x18, x19, x20, x21, x22, x23, x24, x25, x26, x27, x28, x29, x30, x31, x32, x33, x34, x35, x36, x37, x38, x39, x40, x41, x42, x43, x44, x45, x46, x47, x48, x49, x50, x51, x52, x53, x54, x55, x56, x57, x58, x59, x60, x61, x62, x63, x64, x65, x66, x67, x68, x69, x70, x71, x72, x73, x74, x75, x76, x77, x78, x79, x80, x81, x82, x83, x84, x85, x86, x87, x88, x89, x90, x91, x92, x93, x94, x95, x96, x97, x98, x99, x100, x101, x102, x103, x104, x105, x106, x107, x108, x109, x110, x111, x112, x113, x114, x115, x116, x117, x118, x119, x120, x121, x122, x123, x124, x125, x126, x127, x128, x129, x130, x131, x132, x133, x134, x135, x136, x137, x138, x139, x140, x141, x142, x143, x144, x145, x146, x147, x148, x149, x150, x151, x152, x153, x154, x155, x156, x157, x158, x159, x160, x161, x162, x163, x164, x165, x166, x167, x168, x169, x170, x171, x172, x173, x174, x175, x176, x177, x178, x179, x180, x181, x182, x183, x184, x185, x186, x187, x188, x189, x190, x191, x192, x193, x194, x195, x196, x197, x198, x199, x200, x201], []⟩ wr := by
  have HK : Hid (∀ (k' : Nat) (u12 u15 u16 u17 u18 u19 u20 u22 u61 u62 u63 u64 u65 u66 u67 u68 u69 u70 u71 u72 u73 u74 u75 u76 u77 u78 u79 u80 u81 u82 u83 u84 u85 u86 u87 u88 u89 u90 u91 u92 u93 u94 u95 u96 u97 u98 u99 u100 u101 u102 u103 u104 u105 u106 u107 u108 u109 u110 u111 u112 u113 u114 u115 u116 u117 u118 u119 u120 u121 u122 u123 u124 u125 u126 u127 u128 u129 u130 u131 u132 u133 u134 u135 u136 u137 u138 u139 u140 u141 u142 u143 u144 u145 u146 u147 u148 u149 u150 u151 u152 u153 u154 u155 u156 u157 u158 u159 u160 u161 u162 u163 u164 u165 u166 u167 u168 u169 u170 u171 u172 u173 u174 u175 u176 u177 u178 u179 u180 u181 u182 u183 u184 u185 u186 u187 u188 u189 u190 u191 u192 u193 u194 u195 u196 u197 u198 : Value) (w' : World), k' < s.meas g → Rel g n T r w0 k' u12 w' → K ⟨#[.slice (some ⟨bG, 0, none⟩) n n, x1, x2, x3, .pointer (some ⟨T + 1, 0, none⟩), .pointer (some ⟨T + 3, 0, none⟩), .slice (some ⟨T + 4, 0, none⟩) n n, .pointer (some ⟨T + 6, 0, none⟩), x8, .pointer (some ⟨T + 7, 0, none⟩), .pointer (some ⟨T + 8, 0, none⟩), .pointer (some ⟨T + 9, 0, none⟩), u12, .func (.func 30) #[] #[.pointer (some ⟨T + 9, 0, none⟩), .pointer (some ⟨T + 1, 0, none⟩), .pointer (some ⟨T + 3, 0, none⟩), .pointer (some ⟨T + 8, 0, none⟩), .pointer (some ⟨T + 6, 0, none⟩), .pointer (some ⟨T + 7, 0, none⟩)], x14, u15, u16, u17, u18, u19, u20, x21, u22, x23, x24, x25, x26, x27, x28, x29, x30, x31, x32, x33, x34, x35, x36, x37, x38, x39, x40, x41, x42, x43, x44, x45, x46, x47, x48, x49, x50, x51, x52, x53, x54, x55, x56, x57, x58, x59, x60, u61, u62, u63, u64, u65, u66, u67, u68, u69, u70, u71, u72, u73, u74, u75, u76, u77, u78, u79, u80, u81, u82, u83, u84, u85, u86, u87, u88, u89, u90, u91, u92, u93, u94, u95, u96, u97, u98, u99, u100, u101, u102, u103, u104, u105, u106, u107, u108, u109, u110, u111, u112, u113, u114, u115, u116, u117, u118, u119, u120, u121, u122, u123, u124, u125, u126, u127, u128, u129, u130, u131, u132, u133, u134, u135, u136, u137, u138, u139, u140, u141, u142, u143, u144, u145, u146, u147, u148, u149, u150, u151, u152, u153, u154, u155, u156, u157, u158, u159, u160, u161, u162, u163, u164, u165, u166, u167, u168, u169, u170, u171, u172, u173, u174, u175, u176, u177, u178, u179, u180, u181, u182, u183, u184, u185, u186, u187, u188, u189, u190, u191, u192, u193, u194, u195, u196, u197, u198, x199, x200, x201], []⟩ w') := hK
  clear hK
  have hms : m ∈ s.stack := (hi.ca_mem m k (by rw [hc]; simp)).1
  have hmn : m < n := by have := hi.st_lt hms; omega
  have z1 : wr.cell? ⟨T + 1, 0, none⟩ = some (.slice (some ⟨T, 0, none⟩) n n) := hm.xo.cell (i := 0) (by omega)
  have z2 : wr.cell? ⟨T, m, none⟩ = some (.int .i64 (s.ord m)) := hm.o.cell hmn
  have z3 : wr.cell? ⟨T + 3, 0, none⟩ = some (.slice (some ⟨T + 2, 0, none⟩) n n) := hm.xl.cell (i := 0) (by omega)
  have z4 : wr.cell? ⟨T + 2, m, none⟩ = some (.int .i64 (s.low m)) := hm.l.cell hmn
  have i1 : (0 : Int) ≤ (m : Int) := by omega
  have i2 : (m : Int) < (n : Int) := by omega
  have hb : (s.low m != s.ord m) = false := by simp [heq]
  obtain ⟨A, B, hst⟩ := List.append_of_mem hms
  have hnd : ∀ j, A.length < j → s.stack[j]? ≠ some m := by
    intro j hj hx
    have hs := hi.st_sorted
    rw [hst] at hs hx
    rw [List.getElem?_append_right (by omega)] at hx
    obtain ⟨j', hj'⟩ : ∃ j', j - A.length = j' + 1 := ⟨j - A.length - 1, by omega⟩
    rw [hj', List.getElem?_cons_succ] at hx
    have := (List.pairwise_cons.1 (List.pairwise_append.1 hs).2.1).1 m (List.mem_of_getElem? hx)
    omega
  have hslen : s.stack.length = A.length + (B.length + 1) := by rw [hst]; simp
  have hsb : A.length + (B.length + 1) ≤ 1024 := by have := hi.cnt_le; omega
  have hcb : s.cnt ≤ 1024 := by have := hi.cnt_le; omega
  obtain ⟨gS, cap, s0, s1, s2, s3, s4⟩ := hm.stk (by show 0 < s.stack.length; omega)
  have s1 : A.length + (B.length + 1) ≤ cap := by rw [← hslen]; exact s1
  have z5 : wr.cell? ⟨T + 8, 0, none⟩ = some (.slice (some ⟨gS, 0, none⟩) (A.length + (B.length + 1)) cap) := by rw [← hslen]; exact s2.cell (i := 0) (by omega)
  have HX : Hid (Mem wr T n { s with calls := cs } ∧ TInv g s ∧ (∀ v, v ≤ r → 0 ≤ s.ord v) ∧ s.calls = cs ++ [(m, k)] ∧ (sc g m).length ≤ k ∧ s.low m = s.ord m ∧ s.stack = A ++ m :: B ∧ s.stack.length = A.length + (B.length + 1) ∧ (∀ j, A.length < j → s.stack[j]? ≠ some m)) := ⟨hm, hi, hvs, hc, hk, heq, hst, hslen, hnd⟩
  have HB : Hid (Below T w0 wr) := hbel
  have HS : Hid (∀ j x, s.stack[j]? = some x → wr.cell? ⟨gS, j, none⟩ = some (.int .i64 (x : Nat))) := s4
  have HO : Hid (wr.ownsRow (T + 10) 3 1 (.slice (some ⟨gS, 0, none⟩) s.stack.length cap) s.stack.length (ints s.stack)) := s3
  clear hm hvs hc hi hms heq hk hbel hst hnd hslen s2 s3 s4
  obtain ⟨a, ha⟩ : ∃ a, a = A.length := ⟨_, rfl⟩
  obtain ⟨c, hbl⟩ : ∃ c, c = B.length + 1 := ⟨_, rfl⟩
  rw [← ha, ← hbl] at hsb s1 z5
  have Ha : Hid (a = A.length ∧ c = B.length + 1) := ⟨ha, hbl⟩
  have hc1 : 1 ≤ c := by omega
  clear ha hbl
  conv => arg 2; whnf
  go_wp2_with fail
  go_quiet (fail)
  go_wp2_with fail
  obtain ⟨W1, hW1⟩ : ∃ W1, W1 = wr.drewN nq := ⟨_, rfl⟩
  rw [← hW1]
  have HM1 : Hid (Mem W1 T n { s with calls := cs }) := by rw [hW1]; exact HX.out.1.drewN nq
  have HB1 : Hid (Below T w0 W1) := by rw [hW1]; exact below_drewN HB.out nq
  have HS1 : Hid (∀ j x, s.stack[j]? = some x → W1.cell? ⟨gS, j, none⟩ = some (.int .i64 (x : Nat))) := by rw [hW1]; exact HS.out
  have HO1 : Hid (W1.ownsRow (T + 10) 3 1 (.slice (some ⟨gS, 0, none⟩) (a + c) cap) (a + c) (ints s.stack)) := by
    have e : s.stack.length = a + c := by rw [HX.out.2.2.2.2.2.2.2.1, Ha.out.1, Ha.out.2]
    rw [hW1, ← e]; exact HO.out
  have z6 : W1.cell? ⟨T + 8, 0, none⟩ = some (.slice (some ⟨gS, 0, none⟩) (a + c) cap) := by rw [hW1]; exact z5
  clear z1 z2 z3 z4 z5 HS HO HB hb hW1
  go_loopw [20] (fun i w' => ∃ j : Nat, a ≤ j ∧ j < a + c ∧ i = .int .i64 j ∧ Hid (w' = W1)) (fun i _ => (intOf i).toNat)
  case atStart => exact ⟨a + c - 1, by omega, by omega, by simp; omega, rfl⟩
  case round =>
    obtain ⟨j, hj1, hj2, rfl, hw⟩ := hrel
    have hw := hw.out
    subst hw
    have e : s.stack.length = a + c := by rw [HX.out.2.2.2.2.2.2.2.1, Ha.out.1, Ha.out.2]
    obtain ⟨x, hx⟩ : ∃ x, s.stack[j]? = some x := ⟨s.stack[j]'(by omega), List.getElem?_eq_getElem _⟩
    have z7 := HS1.out j x hx
    have j1 : (0 : Int) ≤ (j : Int) := by omega
    have j2 : (j : Int) < ((a + c : Nat) : Int) := by omega
    have Hx : Hid (s.stack[j]? = some x) := hx
    clear hx e
    by_cases hxm : x = m
    · subst hxm
      obtain rfl : a = j := by
        rcases Nat.lt_or_ge a j with h | h
        · exact absurd Hx.out (HX.out.2.2.2.2.2.2.2.2 j (by rw [← Ha.out.1]; exact h))
        · omega
      have hxx : ((x : Int) != (x : Int)) = false := by simp
      have j3 : (0 : Int) ≤ (a : Int) := by omega
      have j4 : (a : Int) ≤ ((a + c : Nat) : Int) := by omega
      go_wp2_with fail
      obtain ⟨bb, hbb⟩ : ∃ bb : Bool, bb = decide (1 < c) := ⟨_, rfl⟩
      have Hbb : Hid (bb = decide (1 < c)) := hbb
      clear hbb
      go_loopw [172] (fun i w' => ∃ j : Nat, j ≤ c ∧ i = .int .i64 j ∧ Hid (Mem w' T n (clr { s with calls := cs } (x :: B) bb j)) ∧ Hid (Below T w0 w') ∧ Hid (w'.ownsRow (T + 10) 3 1 (.slice (some ⟨gS, 0, none⟩) (a + c) cap) (a + c) (ints s.stack)) ∧ w'.cell? ⟨T + 8, 0, none⟩ = some (.slice (some ⟨gS, 0, none⟩) (a + c) cap)) (fun i _ => c - (intOf i).toNat)
      case atStart => exact ⟨0, Nat.zero_le _, rfl, by rw [clr_zero]; exact HM1.out, HB1.out, HO1.out, z6⟩
      case round =>
        clear z6 z7 HM1 HB1 HO1
        obtain ⟨j, hj, rfl, HM2, HB2, HO2, z6⟩ := hrel
        by_cases hlt : j < c
        · have hst := HX.out.2.2.2.2.2.2.1
          obtain ⟨y, hy⟩ : ∃ y, (x :: B)[j]? = some y := ⟨(x :: B)[j]'(by have := Ha.out.2; simp; omega), List.getElem?_eq_getElem _⟩
          have hys : s.stack[a + j]? = some y := by
            rw [hst, Ha.out.1, List.getElem?_append_right (by omega), Nat.add_sub_cancel_left]; exact hy
          have hyn : y < n := by have := HX.out.2.1.st_lt (List.mem_of_getElem? hys); omega
          have z8 : wr.cell? ⟨gS, a + j, none⟩ = some (.int .i64 (y : Nat)) := by
            rw [HO2.out.cellAt _ (by omega)]; simp [ints, hys]
          have z9 : wr.cell? ⟨T + 6, 0, none⟩ = some (.slice (some ⟨T + 5, 0, none⟩) n n) := HM2.out.xn.cell (i := 0) (by omega)
          have zA := HM2.out.nn.cell hyn
          have fA := HM2.out.nn.frozen y
          have zB := HM2.out.c.cell hyn
          have fB := HM2.out.c.frozen y
          have e1 : (0 : Int) ≤ (j : Int) := by omega
          have e2 : (j : Int) < (c : Int) := by omega
          have e3 : (0 : Int) ≤ (y : Int) := by omega
          have e4 : (y : Int) < (n : Int) := by omega
          have Hy : Hid ((x :: B)[j]? = some y) := hy
          clear hst hys hy
          by_cases h1 : 1 < c
          · have h2 : (1 : Int) < (a : Int) + (c : Int) - (a : Int) := by omega
            have h3 : (1 : Int) < (c : Int) := by omega
            obtain rfl : bb = true := by rw [Hbb.out]; exact decide_eq_true h1
            go_wp2_with fail
            go_roundw
            case rel =>
              refine ⟨j + 1, by omega, by go_num, ?_, Below.setCell (Below.setCell HB2.out (by simp) _) (by simp) _, ownsRow_setCell_below (ownsRow_setCell_below HO2.out (by simp) _) (by simp) _, by simp [go_sem, z6]⟩
              have e := clr_next (s := { s with calls := cs }) (b := true) Hy.out
              rw [if_pos rfl] at e
              rw [← e]
              exact (HM2.out.setN hyn false).setC hyn _
            case measure => simp [intOf]; omega
          · have h2 : ¬ (1 : Int) < (a : Int) + (c : Int) - (a : Int) := by omega
            have h3 : ¬ (1 : Int) < (c : Int) := by omega
            obtain rfl : bb = false := by rw [Hbb.out]; exact decide_eq_false h1
            go_wp2_with fail
            go_roundw
            case rel =>
              refine ⟨j + 1, by omega, by go_num, ?_, Below.setCell HB2.out (by simp) _, ownsRow_setCell_below HO2.out (by simp) _, by simp [go_sem, z6]⟩
              have e := clr_next (s := { s with calls := cs }) (b := false) Hy.out
              rw [if_neg (by simp)] at e
              rw [← e]
              exact HM2.out.setN hyn false
            case measure => simp [intOf]; omega
        · obtain rfl : c = j := by omega
          have f8 : wr.frozen? ⟨T + 8, 0, none⟩ = false := by obtain ⟨v, r8, _⟩ := HM2.out.st; exact r8.frozen 0
          have HF : Hid (Mem (wr.setCell ⟨T + 8, 0, none⟩ (.slice (some ⟨gS, 0, none⟩) a cap)) T n (s.take cs A B x)) := by
            have hb1 : bb = true ↔ B ≠ [] := by
              have h1 := Ha.out.2
              rw [Hbb.out, decide_eq_true_iff]
              cases B with
              | nil => simp at h1 ⊢; omega
              | cons y B => simp at h1 ⊢; omega
            have o1 : wr.ownsRow (T + 10) 3 1 (.slice (some ⟨gS, 0, none⟩) A.length cap) A.length (ints A) := by
              have h := HO2.out
              rw [HX.out.2.2.2.2.2.2.1, ints, List.map_append] at h
              exact own_cut h (by simp) (by have := Ha.out.1; omega)
            rw [← clr_take s cs A B x bb hb1]
            have h1 := HM2.out.putSt o1
            rw [Ha.out.2] at h1
            rw [Ha.out.1]
            exact h1.ghost _ _
          have HBF : Hid (Below T w0 (wr.setCell ⟨T + 8, 0, none⟩ (.slice (some ⟨gS, 0, none⟩) a cap))) := Below.setCell HB2.out (by simp) _
          have e1 : (0 : Int) ≤ (a : Int) := by omega
          have e2 : (a : Int) ≤ (cap : Int) := by omega
          by_cases h1 : 1 < c
          · have h2 : (1 : Int) < (a : Int) + (c : Int) - (a : Int) := by omega
            have h3 : (1 : Int) < (c : Int) := by omega
            have hcn : (s.take cs A B x).cnt = s.cnt + 1 := by
              have h4 := Ha.out.2
              have : B ≠ [] := by intro e; rw [e] at h4; simp at h4; omega
              simp [TS.take, this]
            have Hcn : Hid ((s.take cs A B x).cnt = s.cnt + 1) := hcn
            clear hcn
            go_wp2_with fail
            obtain ⟨_, hi, hvs, hc, hk, heq, hst, _, _⟩ := HX.out
            exact HK.out _ _ _ _ _ _ _ _ _ _ _ _ _ _ _ _ _ _ _ _ _ _ _ _ _ _ _ _ _ _ _ _ _ _ _ _ _ _ _ _ _ _ _ _ _ _ _ _ _ _ _ _ _ _ _ _ _ _ _ _ _ _ _ _ _ _ _ _ _ _ _ _ _ _ _ _ _ _ _ _ _ _ _ _ _ _ _ _ _ _ _ _ _ _ _ _ _ _ _ _ _ _ _ _ _ _ _ _ _ _ _ _ _ _ _ _ _ _ _ _ _ _ _ _ _ _ _ _ _ _ _ _ _ _ _ _ _ _ _ _ _ _ _ _ _ _ _ _ (meas_pop (s' := s.take cs A B x) hc rfl rfl) ⟨s.take cs A B x, by rw [Hcn.out]; simp, rfl, HF.out, tinv_take hi hc hk heq hst, hvs, HBF.out⟩
          · have h2 : ¬ (1 : Int) < (a : Int) + (c : Int) - (a : Int) := by omega
            have h3 : ¬ (1 : Int) < (c : Int) := by omega
            have hcn : (s.take cs A B x).cnt = s.cnt := by
              have h4 := Ha.out.2
              have : B = [] := by cases B with
                | nil => rfl
                | cons y B => simp at h4; omega
              simp [TS.take, this]
            have Hcn : Hid ((s.take cs A B x).cnt = s.cnt) := hcn
            clear hcn
            go_wp2_with fail
            obtain ⟨_, hi, hvs, hc, hk, heq, hst, _, _⟩ := HX.out
            exact HK.out _ _ _ _ _ _ _ _ _ _ _ _ _ _ _ _ _ _ _ _ _ _ _ _ _ _ _ _ _ _ _ _ _ _ _ _ _ _ _ _ _ _ _ _ _ _ _ _ _ _ _ _ _ _ _ _ _ _ _ _ _ _ _ _ _ _ _ _ _ _ _ _ _ _ _ _ _ _ _ _ _ _ _ _ _ _ _ _ _ _ _ _ _ _ _ _ _ _ _ _ _ _ _ _ _ _ _ _ _ _ _ _ _ _ _ _ _ _ _ _ _ _ _ _ _ _ _ _ _ _ _ _ _ _ _ _ _ _ _ _ _ _ _ _ _ _ _ _ (meas_pop (s' := s.take cs A B x) hc rfl rfl) ⟨s.take cs A B x, by rw [Hcn.out], rfl, HF.out, tinv_take hi hc hk heq hst, hvs, HBF.out⟩
    · have hne : ((x : Int) != (m : Int)) = true := bne_iff_ne.2 (by omega)
      have hja : j ≠ a := by
        intro hj
        refine hxm ?_
        have h1 := Hx.out
        rw [HX.out.2.2.2.2.2.2.1, hj, Ha.out.1, List.getElem?_append_right (Nat.le_refl _), Nat.sub_self] at h1
        simpa using h1.symm
      go_wp2_with fail
      go_roundw
      case rel => exact ⟨j - 1, by omega, by omega, by simp; omega, by first | exact rfl | exact trivial⟩
      case measure => simp [intOf]; omega
end Go.Proofs.Qxb6604039a
