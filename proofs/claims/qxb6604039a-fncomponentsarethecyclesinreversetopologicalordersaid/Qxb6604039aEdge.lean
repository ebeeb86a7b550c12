import Derived.Test.Qxb6604039aSteps
import Derived.Deep.DeepCutAuto
namespace Go.Proofs.Qxb6604039a
open Go.RowKit

def findBlock (id : Nat) : Code → Option Code
  | .loop c => findBlock id c
  | .seq a b => match findBlock id a with
    | some c => some c
    | none => findBlock id b
  | .block i c => if i = id then some c else findBlock id c
  | .scope c => findBlock id c
  | .cond _ a b => match findBlock id a with
    | some c => some c
    | none => findBlock id b
  | _ => none
def unLoop : Code → Code
  | .loop c => c
  | c => c
def sndC : Code → Code
  | .seq _ b => b
  | c => c
noncomputable def body3 : Code := unLoop ((Try.f27.body.bind (findBlock 4)).getD .skip)
noncomputable def tail3 : Code := sndC (sndC (sndC (sndC (sndC ((Try.f27.body.bind (findBlock 5)).getD .skip)))))

/-- What holds when the loop over the calls stands at its head: k bounds the rounds to come. -/
def Rel (g : List (List Nat)) (n T r : Nat) (w0 : World) (k : Nat) (c : Value) (wr : World) : Prop :=
  ∃ s : TS, c = .int .i64 s.cnt ∧ k = s.meas g ∧ Mem wr T n s ∧ TInv g s ∧ (∀ v, v ≤ r → 0 ≤ s.ord v) ∧ Below T w0 wr

theorem min_if (a b : Int) : (if b < a then b else a) = min a b := by omega

set_option maxHeartbeats 4000000 in
set_option maxRecDepth 1000000 in
theorem case_edge (bG n T r : Nat) (g : List (List Nat)) (w0 wr : World) (s : TS) (cs : List (Nat × Nat)) (p k u : Nat) (x1 x2 x3 x8 x14 x15 x16 x17 x18 x19 x20 x21 x22 x23 x24 x25 x26 x27 x28 x29 x30 x31 x32 x33 x34 x35 x36 x37 x38 x39 x40 x41 x42 x43 x44 x45 x46 x47 x48 x49 x50 x51 x52 x53 x54 x55 x56 x57 x58 x59 x60 x61 x62 x63 x64 x65 x66 x67 x68 x69 x70 x71 x72 x73 x74 x75 x76 x77 x78 x79 x80 x81 x82 x83 x84 x85 x86 x87 x88 x89 x90 x91 x92 x93 x94 x95 x96 x97 x98 x99 x100 x101 x102 x103 x104 x105 x106 x107 x108 x109 x110 x111 x112 x113 x114 x115 x116 x117 x118 x119 x120 x121 x122 x123 x124 x125 x126 x127 x128 x129 x130 x131 x132 x133 x134 x135 x136 x137 x138 x139 x140 x141 x142 x143 x144 x145 x146 x147 x148 x149 x150 x151 x152 x153 x154 x155 x156 x157 x158 x159 x160 x161 x162 x163 x164 x165 x166 x167 x168 x169 x170 x171 x172 x173 x174 x175 x176 x177 x178 x179 x180 x181 x182 x183 x184 x185 x186 x187 x188 x189 x190 x191 x192 x193 x194 x195 x196 x197 x198 x199 x200 x201 : Value) (K : Act → World → Prop)
    (hn : n ≤ 1024) (hL : g.length = n) (hN : NodesAt wr bG n g) (hm : Mem wr T n s) (hi : TInv g s) (hvs : ∀ v, v ≤ r → 0 ≤ s.ord v) (hbel : Below T w0 wr)
    (hc : s.calls = cs ++ [(p, k)]) (hu : (sc g p)[k]? = some u)
    (hK : ∀ (k' : Nat) (u12 u15 u16 u17 u18 u19 u20 u22 u61 u62 u63 u64 u65 u66 u67 u68 u69 u70 u71 u72 u73 u74 u75 u76 u77 u78 u79 u80 u81 u82 u83 u84 u85 u86 u87 u88 u89 u90 u91 u92 u93 u94 u95 u96 u97 u98 u99 u100 u101 u102 u103 u104 u105 u106 u107 u108 u109 u110 u111 u112 u113 u114 u115 u116 u117 u118 u119 u120 u121 u122 u123 u124 u125 u126 u127 u128 u129 u130 u131 u132 u133 u134 u135 u136 u137 u138 u139 u140 u141 u142 u143 u144 u145 u146 u147 u148 u149 u150 u151 u152 u153 u154 u155 u156 u157 u158 u159 u160 u161 u162 u163 u164 u165 u166 u167 u168 u169 u170 u171 u172 u173 u174 u175 u176 u177 u178 u179 u180 u181 u182 u183 u184 u185 u186 u187 u188 u189 u190 u191 u192 u193 u194 u195 u196 u197 u198 : Value) (w' : World), k' < s.meas g → Rel g n T r w0 k' u12 w' → K ⟨#[.slice (some ⟨bG, 0, none⟩) n n, x1, x2, x3, .pointer (some ⟨T + 1, 0, none⟩), .pointer (some ⟨T + 3, 0, none⟩), .slice (some ⟨T + 4, 0, none⟩) n n, .pointer (some ⟨T + 6, 0, none⟩), x8, .pointer (some ⟨T + 7, 0, none⟩), .pointer (some ⟨T + 8, 0, none⟩), .pointer (some ⟨T + 9, 0, none⟩), u12, .func (.func 30) #[] #[.pointer (some ⟨T + 9, 0, none⟩), .pointer (some ⟨T + 1, 0, none⟩), .pointer (some ⟨T + 3, 0, none⟩), .pointer (some ⟨T + 8, 0, none⟩), .pointer (some ⟨T + 6, 0, none⟩), .pointer (some ⟨T + 7, 0, none⟩)], x14, u15, u16, u17, u18, u19, u20, x21, u22, x23, x24, x25, x26, x27, x28, x29, x30, x31, x32, x33, x34, x35, x36, x37, x38, x39, x40, x41, x42, x43, x44, x45, x46, x47, x48, x49, x50, x51, x52, x53, x54, x55, x56, x57, x58, x59, x60, u61, u62, u63, u64, u65, u66, u67, u68, u69, u70, u71, u72, u73, u74, u75, u76, u77, u78, u79, u80, u81, u82, u83, u84, u85, u86, u87, u88, u89, u90, u91, u92, u93, u94, u95, u96, u97, u98, u99, u100, u101, u102, u103, u104, u105, u106, u107, u108, u109, u110, u111, u112, u113, u114, u115, u116, u117, u118, u119, u120, u121, u122, u123, u124, u125, u126, u127, u128, u129, u130, u131, u132, u133, u134, u135, u136, u137, u138, u139, u140, u141, u142, u143, u144, u145, u146, u147, u148, u149, u150, u151, u152, u153, u154, u155, u156, u157, u158, u159, u160, u161, u162, u163, u164, u165, u166, u167, u168, u169, u170, u171, u172, u173, u174, u175, u176, u177, u178, u179, u180, u181, u182, u183, u184, u185, u186, u187, u188, u189, u190, u191, u192, u193, u194, u195, u196, u197, u198, x199, x200, x201], []⟩ w') :
    Code.wp Try.prog body3 (Exit.then K fun _ _ _ => False) ⟨#[.slice (some ⟨bG, 0, none⟩) n n, x1, x2, x3, .pointer (some ⟨T + 1, 0, none⟩), .pointer (some ⟨T + 3, 0, none⟩), .slice (some ⟨T + 4, 0, none⟩) n n, .pointer (some ⟨T + 6, 0, none⟩), x8, .pointer (some ⟨T + 7, 0, none⟩), .pointer (some ⟨T + 8, 0, none⟩), .pointer (some ⟨T + 9, 0, none⟩), .int .i64 s.cnt, .func (.func 30) #[] #[.pointer (some ⟨T + 9, 0, none⟩), .pointer (some ⟨T + 1, 0, none⟩), .pointer (some ⟨T + 3, 0, none⟩), .pointer (some ⟨T + 8, 0, none⟩), .pointer (some ⟨T + 6, 0, none⟩), .pointer (some ⟨T + 7, 0, none⟩)], x14, x15, x16, x17, x18, x19, x20, x21, x22, x23, x24, x25, x26, x27, x28, x29, x30, x31, x32, x33, x34, x35, x36, x37, x38, x39, x40, x41, x42, x43, x44, x45, x46, x47, x48, x49, x50, x51, x52, x53, x54, x55, x56, x57, x58, x59, x60, x61, x62, x63, x64, x65, x66, x67, x68, x69, x70, x71, x72, x73, x74, x75, x76, x77, x78, x79, x80, x81, x82, x83, x84, x85, x86, x87, x88, x89, x90, x91, x92, x93, x94, x95, x96, x97, x98, x99, x100, x101, x102, x103, x104, x105, x106, x107, x108, x109, x110, x111, x112, x113, x114, x115, x116, x117, x118, x119, x120, x121, x122, x123, x124, x125, x126, x127, x128, x129, x130, x131, x132, x133, x134, x135, x136, x137, x138, x139, x140, x141, x142, x143, x144, x145, x146, x147, x148, x149, x150, x151, x152, x153, x154, x155, x156, x157, x158, x159, x160, x161, x162, x163, x164, x165, x166, x167, x168, x169, x170, x171, x172, x173, x174, x175, x176, x177, x178, x179, x180, x181, x182, x183, x184, x185, x186, x187, x188, x189, x190, x191, x192, x193, x194, x195, x196, x197, x198, x199, x200, x201], []⟩ wr := by
  have hmf : ∀ (fn : Fn) (first cap : Array Value) (w : World), (Instr.makeFunc fn first cap).run Try.prog w = .ok (.func fn first cap) w := fun _ _ _ _ => rfl
  have HK : Hid (∀ (k' : Nat) (u12 u15 u16 u17 u18 u19 u20 u22 u61 u62 u63 u64 u65 u66 u67 u68 u69 u70 u71 u72 u73 u74 u75 u76 u77 u78 u79 u80 u81 u82 u83 u84 u85 u86 u87 u88 u89 u90 u91 u92 u93 u94 u95 u96 u97 u98 u99 u100 u101 u102 u103 u104 u105 u106 u107 u108 u109 u110 u111 u112 u113 u114 u115 u116 u117 u118 u119 u120 u121 u122 u123 u124 u125 u126 u127 u128 u129 u130 u131 u132 u133 u134 u135 u136 u137 u138 u139 u140 u141 u142 u143 u144 u145 u146 u147 u148 u149 u150 u151 u152 u153 u154 u155 u156 u157 u158 u159 u160 u161 u162 u163 u164 u165 u166 u167 u168 u169 u170 u171 u172 u173 u174 u175 u176 u177 u178 u179 u180 u181 u182 u183 u184 u185 u186 u187 u188 u189 u190 u191 u192 u193 u194 u195 u196 u197 u198 : Value) (w' : World), k' < s.meas g → Rel g n T r w0 k' u12 w' → K ⟨#[.slice (some ⟨bG, 0, none⟩) n n, x1, x2, x3, .pointer (some ⟨T + 1, 0, none⟩), .pointer (some ⟨T + 3, 0, none⟩), .slice (some ⟨T + 4, 0, none⟩) n n, .pointer (some ⟨T + 6, 0, none⟩), x8, .pointer (some ⟨T + 7, 0, none⟩), .pointer (some ⟨T + 8, 0, none⟩), .pointer (some ⟨T + 9, 0, none⟩), u12, .func (.func 30) #[] #[.pointer (some ⟨T + 9, 0, none⟩), .pointer (some ⟨T + 1, 0, none⟩), .pointer (some ⟨T + 3, 0, none⟩), .pointer (some ⟨T + 8, 0, none⟩), .pointer (some ⟨T + 6, 0, none⟩), .pointer (some ⟨T + 7, 0, none⟩)], x14, u15, u16, u17, u18, u19, u20, x21, u22, x23, x24, x25, x26, x27, x28, x29, x30, x31, x32, x33, x34, x35, x36, x37, x38, x39, x40, x41, x42, x43, x44, x45, x46, x47, x48, x49, x50, x51, x52, x53, x54, x55, x56, x57, x58, x59, x60, u61, u62, u63, u64, u65, u66, u67, u68, u69, u70, u71, u72, u73, u74, u75, u76, u77, u78, u79, u80, u81, u82, u83, u84, u85, u86, u87, u88, u89, u90, u91, u92, u93, u94, u95, u96, u97, u98, u99, u100, u101, u102, u103, u104, u105, u106, u107, u108, u109, u110, u111, u112, u113, u114, u115, u116, u117, u118, u119, u120, u121, u122, u123, u124, u125, u126, u127, u128, u129, u130, u131, u132, u133, u134, u135, u136, u137, u138, u139, u140, u141, u142, u143, u144, u145, u146, u147, u148, u149, u150, u151, u152, u153, u154, u155, u156, u157, u158, u159, u160, u161, u162, u163, u164, u165, u166, u167, u168, u169, u170, u171, u172, u173, u174, u175, u176, u177, u178, u179, u180, u181, u182, u183, u184, u185, u186, u187, u188, u189, u190, u191, u192, u193, u194, u195, u196, u197, u198, x199, x200, x201], []⟩ w') := hK
  clear hK
  have hps : p ∈ s.stack := (hi.ca_mem p k (by rw [hc]; simp)).1
  have hpn : p < n := by have := hi.st_lt hps; omega
  obtain ⟨a, ca, y1, y2, y3⟩ := hN.2 p hpn
  obtain ⟨hun, b, ha, y4⟩ := y3 k u hu
  subst ha
  have hkd : k < (sc g p).length := (List.getElem?_eq_some_iff.1 hu).1
  obtain ⟨gC, cap, q0, q1, q2, q3, q4, q5, q6⟩ := hm.top hc
  have z7 := q2.cell (i := 0) (by omega)
  have hcl := hi.ca_le
  rw [hc, List.length_append, List.length_singleton] at hcl
  have HX : Hid (NodesAt wr bG n g ∧ TInv g s ∧ (∀ v, v ≤ r → 0 ≤ s.ord v) ∧ s.calls = cs ++ [(p, k)] ∧ (sc g p)[k]? = some u ∧ Row wr (T + 7) 73 1 (fun _ => .slice (some ⟨gC, 0, none⟩) (cs.length + 1) cap) ∧ wr.ownsRow (T + 10) 75 2 (.slice (some ⟨gC, 0, none⟩) (cs.length + 1) cap) (cs.length + 1) (flat (cs ++ [(p, k)]))) := ⟨hN, hi, hvs, hc, hu, q2, q3⟩
  have HB : Hid (Below T w0 wr) := hbel
  have hL1 : cs.length + 1 ≤ 1024 := by omega
  have HM : Hid (Mem wr T n s) := hm
  clear hN hi hvs hc hu y3 hps q2 q3 hcl hbel hm hmf
  obtain ⟨d, hd⟩ : ∃ d, d = (sc g p).length := ⟨_, rfl⟩
  rw [← hd] at y1 y2 hkd
  have Hd : Hid (d = (sc g p).length) := hd
  clear hd
  obtain ⟨L, hL2⟩ : ∃ L, L = cs.length := ⟨_, rfl⟩
  rw [← hL2] at z7 q1 q4 q5 hL1
  have HL : Hid (L = cs.length) := hL2
  clear hL2
  have i1 : (0 : Int) ≤ (L : Int) := by omega
  have i2 : (L : Int) < ((L + 1 : Nat) : Int) := by omega
  have i3 : (0 : Int) ≤ (p : Int) := by omega
  have i4 : (p : Int) < (n : Int) := by omega
  have i5 : (0 : Int) ≤ (k : Int) := by omega
  have i6 : (k : Int) < (d : Int) := by omega
  have i7 : (0 : Int) ≤ (u : Int) := by omega
  have i8 : (u : Int) < (n : Int) := by omega
  have f0 := q6 (L * 2 + 1)
  clear q6
  conv => arg 2; whnf
  go_upto_region 26 with fail
  obtain ⟨W1, hW1⟩ : ∃ W1, W1 = wr.setCell ⟨gC, L * 2 + 1, none⟩ (.int .i64 ((k : Int) + 1)) := ⟨_, rfl⟩
  rw [← hW1]
  have HM1 : Hid (Mem W1 T n { s with calls := cs ++ [(p, k + 1)] }) := by
    rw [hW1, HL.out]
    obtain ⟨_, _, _, _, _, q2, q3⟩ := HX.out
    exact HM.out.bump q2 q3 (k + 1)
  have HB1 : Hid (Below T w0 W1) := by rw [hW1]; exact Below.setCell HB.out (by simp; omega) _
  clear hW1 z7 q4 q5 y1 y4 f0 HM HB
  have z1 : W1.cell? ⟨T + 1, 0, none⟩ = some (.slice (some ⟨T, 0, none⟩) n n) := HM1.out.xo.cell (i := 0) (by omega)
  have z2 : W1.cell? ⟨T, u, none⟩ = some (.int .i64 (s.ord u)) := HM1.out.o.cell hun
  by_cases hu1 : s.ord u = -1
  · have hb1 : (s.ord u == -1) = true := beq_iff_eq.2 hu1
    go_wp2_with fail
    have hvq := HX.out.2.1.vis_eq
    have hcq := HX.out.2.1.cnt_le
    refine (enter_any T n u { s with calls := cs ++ [(p, k + 1)] } W1 hun (by simp; omega) (by simp; omega) (by simp [← HL.out]; omega) HM1.out).mono ?_
    rintro e w2 ⟨rfl, hm2, hb2⟩
    have HM2 : Hid (Mem w2 T n (TS.enter { s with calls := cs ++ [(p, k + 1)] } u)) := hm2
    have HB2 : Hid (Below T w0 w2) := HB1.out.trans hb2
    clear hm2 hb2 hvq hcq z1 z2 HM1 HB1
    go_wp2_with fail
    obtain ⟨_, hi, hvs, hc, hu, _, _⟩ := HX.out
    obtain ⟨t1, t2⟩ := step_enter hi hc hu (by omega) hu1
    refine HK.out _ _ _ _ _ _ _ _ _ _ _ _ _ _ _ _ _ _ _ _ _ _ _ _ _ _ _ _ _ _ _ _ _ _ _ _ _ _ _ _ _ _ _ _ _ _ _ _ _ _ _ _ _ _ _ _ _ _ _ _ _ _ _ _ _ _ _ _ _ _ _ _ _ _ _ _ _ _ _ _ _ _ _ _ _ _ _ _ _ _ _ _ _ _ _ _ _ _ _ _ _ _ _ _ _ _ _ _ _ _ _ _ _ _ _ _ _ _ _ _ _ _ _ _ _ _ _ _ _ _ _ _ _ _ _ _ _ _ _ _ _ _ _ _ _ _ _ _ t2 ⟨TS.enter { s with calls := cs ++ [(p, k + 1)] } u, rfl, rfl, HM2.out, t1, fun v hv => ?_, HB2.out⟩
    show 0 ≤ upd s.ord u s.vis v
    unfold upd; split
    · omega
    · exact hvs v hv
  · have hb1 : (s.ord u == -1) = false := beq_eq_false_iff_ne.2 hu1
    have z3 : W1.cell? ⟨T + 6, 0, none⟩ = some (.slice (some ⟨T + 5, 0, none⟩) n n) := HM1.out.xn.cell (i := 0) (by omega)
    have z4 : W1.cell? ⟨T + 5, u, none⟩ = some (.bool (s.on u)) := HM1.out.nn.cell hun
    by_cases ho : s.on u = true
    · rw [ho] at z4
      have z5 : W1.cell? ⟨T + 3, 0, none⟩ = some (.slice (some ⟨T + 2, 0, none⟩) n n) := HM1.out.xl.cell (i := 0) (by omega)
      have z6 : W1.cell? ⟨T + 2, p, none⟩ = some (.int .i64 (s.low p)) := HM1.out.l.cell hpn
      have f6 := HM1.out.l.frozen p
      go_wp2_with fail
      go_region
      obtain ⟨M, hM⟩ : ∃ M : Int, M = if s.ord u < s.low p then s.ord u else s.low p := ⟨_, rfl⟩
      rw [← hM]
      obtain ⟨W2, hW2⟩ : ∃ W2, W2 = (W1.setCell ⟨T + 2, p, none⟩ (.int .i64 M)).drew := ⟨_, rfl⟩
      rw [← hW2]
      have HM2 : Hid (Mem W2 T n { s with calls := cs ++ [(p, k + 1)], low := upd s.low p (min (s.low p) (s.ord u)) }) := by
        rw [hW2, hM, min_if]
        exact (HM1.out.setL hpn _).drew
      have HB2 : Hid (Below T w0 W2) := by rw [hW2]; exact (Below.setCell HB1.out (by simp) _).drew
      clear hW2 hM z1 z2 z3 z4 z5 z6 f6 HM1 HB1
      go_wp2_with fail
      obtain ⟨_, hi, hvs, hc, hu, _, _⟩ := HX.out
      obtain ⟨t1, t2⟩ := step_lower hi hc hu hu1 ho
      exact HK.out _ _ _ _ _ _ _ _ _ _ _ _ _ _ _ _ _ _ _ _ _ _ _ _ _ _ _ _ _ _ _ _ _ _ _ _ _ _ _ _ _ _ _ _ _ _ _ _ _ _ _ _ _ _ _ _ _ _ _ _ _ _ _ _ _ _ _ _ _ _ _ _ _ _ _ _ _ _ _ _ _ _ _ _ _ _ _ _ _ _ _ _ _ _ _ _ _ _ _ _ _ _ _ _ _ _ _ _ _ _ _ _ _ _ _ _ _ _ _ _ _ _ _ _ _ _ _ _ _ _ _ _ _ _ _ _ _ _ _ _ _ _ _ _ _ _ _ _ t2 ⟨{ s with calls := cs ++ [(p, k + 1)], low := upd s.low p (min (s.low p) (s.ord u)) }, rfl, rfl, HM2.out, t1, hvs, HB2.out⟩
    · have ho : s.on u = false := by simpa using ho
      rw [ho] at z4
      go_wp2_with fail
      obtain ⟨_, hi, hvs, hc, hu, _, _⟩ := HX.out
      obtain ⟨t1, t2⟩ := step_skip hi hc hu hu1 ho
      exact HK.out _ _ _ _ _ _ _ _ _ _ _ _ _ _ _ _ _ _ _ _ _ _ _ _ _ _ _ _ _ _ _ _ _ _ _ _ _ _ _ _ _ _ _ _ _ _ _ _ _ _ _ _ _ _ _ _ _ _ _ _ _ _ _ _ _ _ _ _ _ _ _ _ _ _ _ _ _ _ _ _ _ _ _ _ _ _ _ _ _ _ _ _ _ _ _ _ _ _ _ _ _ _ _ _ _ _ _ _ _ _ _ _ _ _ _ _ _ _ _ _ _ _ _ _ _ _ _ _ _ _ _ _ _ _ _ _ _ _ _ _ _ _ _ _ _ _ _ _ t2 ⟨{ s with calls := cs ++ [(p, k + 1)] }, rfl, rfl, HM1.out, t1, hvs, HB1.out⟩
end Go.Proofs.Qxb6604039a
