import Derived.Test.Qxb6604039aReach
import Derived.Deep.DeepCutAuto
import Derived.Deep.OwnRows
namespace Go.Proofs.Qxb6604039a
open Go.RowKit
theorem mem_get {α : Type} {l : List α} {x : α} (h : x ∈ l) : ∃ i, i < l.length ∧ l[i]? = some x := by
  obtain ⟨i, hi, e⟩ := List.getElem_of_mem h
  exact ⟨i, hi, by rw [List.getElem?_eq_getElem hi, e]⟩

/-- What the last loops look at. -/
structure Facts (g : List (List Nat)) (n : Nat) (comp : Nat → Int) (cnt : Nat) : Prop where
  f1 : ∀ i, i < n → -1 ≤ comp i ∧ comp i < cnt
  f2 : ∀ i, i < n → (0 ≤ comp i ↔ ∃ j, j < n ∧ j ≠ i ∧ RP g i j ∧ RP g j i)
  f3 : ∀ i j, i < n → j < n → j ≠ i → 0 ≤ comp i → 0 ≤ comp j → (comp i = comp j ↔ RP g i j ∧ RP g j i)
  f4 : ∀ k : Nat, k < cnt → ∃ v, v < n ∧ comp v = k
  f5 : ∀ i j, i < n → j < n → j ≠ i → 0 ≤ comp i → 0 ≤ comp j → RP g i j → comp i ≠ comp j → comp j < comp i
theorem facts_of {w : World} {a : Option Addr} {g : List (List Nat)} {n : Nat} {comp : Nat → Int} {cnt : Nat} (hs : SuccAt w a n g) (h : CInv g (fun v => v < g.length) comp cnt) : Facts g n comp cnt := by
  have hL := hs.1
  have hlt : ∀ v u, Reach g v u → v < n → u < n := fun v u hr hv => hr.closed (P := fun v => v < n) (fun v hv u hu => by
    obtain ⟨b, a', c', _, _, _, h4⟩ := hs.2 v hv
    obtain ⟨i, _, e⟩ := mem_get hu
    exact (h4 i u e).1) hv
  rw [hL] at h
  refine ⟨fun i hi => h.c1 i hi, fun i hi => ?_, fun i j hi hj hne h1 h2 => ?_, fun k hk => h.c4 k hk, fun i j hi hj hne h1 h2 hr hc => ?_⟩
  · rw [h.c2 i hi]
    constructor
    · rintro ⟨u, hne, h1, h2⟩
      exact ⟨u, hlt i u h1 hi, hne, (rp_of_ne hne).2 h1, (rp_of_ne (Ne.symm hne)).2 h2⟩
    · rintro ⟨u, _, hne, h1, h2⟩
      exact ⟨u, hne, (rp_of_ne hne).1 h1, (rp_of_ne (Ne.symm hne)).1 h2⟩
  · rw [h.c3 i j hi hj h1 h2, rp_of_ne hne, rp_of_ne (Ne.symm hne)]; exact Iff.rfl
  · exact h.c5 i j hi hj h1 h2 ((rp_of_ne hne).1 hr) hc

def LOut (w : World) (e : Ending) (w' : World) : Prop := e = .returned (.bool true) ∧ Below w.heap.size w w'
set_option maxHeartbeats 8000000 in
set_option maxRecDepth 100000 in
theorem law_any (a : Option Addr) (n c : Nat) (G : List (List Int)) (w : World) (hn : G.length = n) (hmx : n ≤ maxLen) (hc : a = none → c = 0) (h : GraphAt w a G) :
    Calls Try.prog 3 #[.slice a n c] w fun e w' => LOut w e w' := by
  obtain ⟨i4, hi4, hz04, hz14, hz24⟩ := info_parts Try.info4
  have HR : Hid (GraphAt w a G) := h
  have HZ : Hid (G.length = n ∧ (a = none → c = 0) ∧ n ≤ maxLen) := ⟨hn, hc, hmx⟩
  unfold maxLen at hmx
  clear h hn hc
  by_cases hbig : 1024 < n
  · have hb : (1024 : Int) < (n : Int) := by omega
    go_enter Try.func3, Try.ntmps3
    go_wp2_with (go_at_call 7; refine (zzbytes_any a n c G w HZ.out.1 HZ.out.2.2 HR.out).mono ?_; rintro e w1 ⟨b, rfl, rfl⟩; cases b)
    · go_ret
      exact ⟨rfl, Below.refl _ _⟩
    · go_ret
      exact ⟨rfl, Below.refl _ _⟩
  have hb : ¬ (1024 : Int) < (n : Int) := by omega
  have hn1 : n ≤ 1024 := by omega
  clear hbig hmx
  go_enter Try.func3, Try.ntmps3
  go_wp2_with (go_at_call 7; refine (zzbytes_any a n c G w HZ.out.1 HZ.out.2.2 HR.out).mono ?_; rintro e w1 ⟨b, rfl, rfl⟩; cases b)
  · go_ret
    exact ⟨rfl, Below.refl _ _⟩
  go_loopw [3, 4] (fun z i wr => ∃ (k : Nat) (t : Nat), k ≤ n ∧ t ≤ 1048576 ∧ z = .int .i64 t ∧ i = .int .i64 k ∧ Hid (wr = w1) ∧ Hid (∀ i, i < k → ∀ zs, G[i]? = some zs → zs.length ≤ 131072)) (fun _ i _ => n - (intOf i).toNat)
  case atStart => exact ⟨0, 0, Nat.zero_le _, by omega, rfl, rfl, rfl, fun i hi => absurd hi (by omega)⟩
  case round =>
    obtain ⟨k, t, hk, ht, rfl, rfl, hw, HL⟩ := hrel
    have hw := hw.out
    subst hw
    by_cases hlt : k < n
    · obtain ⟨zs, hzk⟩ : ∃ z, G[k]? = some z := ⟨G[k]'(by have := HZ.out.1; omega), List.getElem?_eq_getElem _⟩
      obtain ⟨b, off, ai, ci, hx, hcl, _, _⟩ := HR.out k zs hzk
      subst hx
      have i0 : (0 : Int) ≤ (k : Int) := by omega
      have i1 : (k : Int) < (n : Int) := by omega
      obtain ⟨l, hl⟩ : ∃ l, l = zs.length := ⟨_, rfl⟩
      rw [← hl] at hcl
      have HK : Hid (G[k]? = some zs ∧ l = zs.length) := ⟨hzk, hl⟩
      clear hl hzk
      by_cases h1 : 131072 < l
      · have h1' : (131072 : Int) < (l : Int) := by omega
        go_wp2_with fail
        go_ret
        exact ⟨rfl, Below.refl _ _⟩
      · have h1' : ¬ (131072 : Int) < (l : Int) := by omega
        by_cases h2 : 1048576 < t + (24 + 8 * l)
        · have h2' : (1048576 : Int) < (t : Int) + (24 + 8 * (l : Int)) := by omega
          go_wp2_with fail
          go_ret
          exact ⟨rfl, Below.refl _ _⟩
        · have h2' : ¬ (1048576 : Int) < (t : Int) + (24 + 8 * (l : Int)) := by omega
          go_wp2_with fail
          go_roundw
          case rel => exact ⟨k + 1, t + (24 + 8 * l), by omega, by omega, by simp, by go_num, by first | exact rfl | exact trivial, fun i hi zs' hzs' => by
            rcases Nat.lt_or_ge i k with h | h
            · exact HL.out i h zs' hzs'
            · obtain rfl : i = k := by omega
              rw [HK.out.1] at hzs'; cases hzs'
              rw [← HK.out.2]; omega⟩
          case measure => simp [intOf]; omega
    · obtain rfl : n = k := by omega
      have HLen : Hid (∀ zs ∈ G, zs.length ≤ 131072) := fun zs hz => by
        obtain ⟨i, hi, e⟩ := mem_get hz
        exact HL.out i (by have := HZ.out.1; omega) zs e
      clear HL ht
      go_wp2_with fail
      obtain ⟨W, hW⟩ : ∃ W, W = wr := ⟨_, rfl⟩
      subst hW
      go_loopw [6] (fun i wr => ∃ k : Nat, k ≤ n ∧ i = .int .i64 k ∧ Hid (wr = W) ∧ Hid (∀ i, i < k → ∀ zs, G[i]? = some zs → ∀ z ∈ zs, 0 ≤ z ∧ z < (n : Int))) (fun i _ => n - (intOf i).toNat)
      case atStart => exact ⟨0, Nat.zero_le _, rfl, rfl, fun i hi => absurd hi (by omega)⟩
      case round =>
        obtain ⟨k, hk, rfl, hw, HL⟩ := hrel
        have hw := hw.out
        subst hw
        by_cases hlt : k < n
        · obtain ⟨zs, hzk⟩ : ∃ z, G[k]? = some z := ⟨G[k]'(by have := HZ.out.1; omega), List.getElem?_eq_getElem _⟩
          obtain ⟨b, off, ai, ci, hx, hcl, _, hrow⟩ := HR.out k zs hzk
          subst hx
          have i0 : (0 : Int) ≤ (k : Int) := by omega
          have i1 : (k : Int) < (n : Int) := by omega
          obtain ⟨l, hl⟩ : ∃ l, l = zs.length := ⟨_, rfl⟩
          rw [← hl] at hcl
          have hlb : l ≤ 131072 := by rw [hl]; exact HLen.out zs (List.mem_of_getElem? hzk)
          have HK : Hid (G[k]? = some zs ∧ l = zs.length) := ⟨hzk, hl⟩
          have HRow : Hid (Rowed wr ai zs) := hrow
          clear hl hzk hrow
          go_wp2_with fail
          obtain ⟨W, hW⟩ : ∃ W, W = wr := ⟨_, rfl⟩
          subst hW
          go_loopw [62] (fun i wr => ∃ j : Nat, j ≤ l ∧ i = .int .i64 j ∧ Hid (wr = W) ∧ Hid (∀ i, i < j → ∀ z, zs[i]? = some z → 0 ≤ z ∧ z < (n : Int))) (fun i _ => l - (intOf i).toNat)
          case atStart => exact ⟨0, Nat.zero_le _, rfl, rfl, fun i hi => absurd hi (by omega)⟩
          case round =>
            obtain ⟨j, hj, rfl, hw, HJ⟩ := hrel
            have hw := hw.out
            subst hw
            by_cases hjl : j < l
            · obtain ⟨z, hzj⟩ : ∃ z, zs[j]? = some z := ⟨zs[j]'(by have := HK.out.2; omega), List.getElem?_eq_getElem _⟩
              obtain ⟨b2, off2, hx2, hc2⟩ := HRow.out j z hzj
              subst hx2
              have j0 : (0 : Int) ≤ (j : Int) := by omega
              have j1 : (j : Int) < (l : Int) := by omega
              have HZj : Hid (zs[j]? = some z) := hzj
              clear hzj
              by_cases h1 : z < 0
              · have h1b : decide (z < 0) = true := decide_eq_true h1
                go_wp2_with fail
                go_ret
                exact ⟨rfl, Below.refl _ _⟩
              · have h1b : decide (z < 0) = false := decide_eq_false h1
                by_cases h2 : (n : Int) ≤ z
                · have h2b : decide ((n : Int) ≤ z) = true := decide_eq_true h2
                  go_wp2_with fail
                  go_ret
                  exact ⟨rfl, Below.refl _ _⟩
                · have h2b : decide ((n : Int) ≤ z) = false := decide_eq_false h2
                  go_wp2_with fail
                  go_roundw
                  case rel => exact ⟨j + 1, by omega, by go_num, by first | exact rfl | exact trivial, fun i hi z' hz' => by
                    rcases Nat.lt_or_ge i j with h | h
                    · exact HJ.out i h z' hz'
                    · obtain rfl : i = j := by omega
                      rw [HZj.out] at hz'; cases hz'
                      omega⟩
                  case measure => simp [intOf]; omega
            · obtain rfl : l = j := by omega
              go_wp2_with fail
              go_roundw
              case rel => exact ⟨k + 1, by omega, by go_num, by first | exact rfl | exact trivial, fun i hi zs' hzs' z hz => by
                rcases Nat.lt_or_ge i k with h | h
                · exact HL.out i h zs' hzs' z hz
                · obtain rfl : i = k := by omega
                  rw [HK.out.1] at hzs'; cases hzs'
                  obtain ⟨i', hi', e⟩ := mem_get hz
                  exact HJ.out i' (by rw [HK.out.2]; exact hi') z e⟩
              case measure => simp [intOf]; omega
        · obtain rfl : n = k := by omega
          have HRng : Hid (∀ zs ∈ G, ∀ z ∈ zs, 0 ≤ z ∧ z < (n : Int)) := fun zs hz => by
            obtain ⟨i, hi, e⟩ := mem_get hz
            exact HL.out i (by have := HZ.out.1; omega) zs e
          clear HL
          go_upto_region 25 with (go_at_call 8; refine (cloneGraph_any a n c G wr HZ.out.1 hn1 HLen.out HZ.out.2.1 HR.out).mono ?_; rintro e w1 ⟨a1, rfl, hsg, hb1⟩)
          obtain ⟨g, hg⟩ : ∃ g, g = G.map fun zs => zs.map Int.toNat := ⟨_, rfl⟩
          have HSu : Hid (SuccAt w1 a1 n g) := by rw [hg]; exact succ_of HZ.out.1 HLen.out HRng.out hsg
          clear hg hsg HRng HLen
          go_upto_region 26 with (go_at_call 9; refine (zzcomps_any a1 n g w1 hn1 HSu.out).mono ?_; rintro e w2 ⟨B, comp, cnt, hBs, rfl, hrow, hci, hcn, hb2⟩)
          have e0 : ((n : Int) != (n : Int)) = false := by simp
          have e1 : ¬ ((cnt : Int) < 0) := by omega
          have e2 : decide ((cnt : Int) < 0) = false := decide_eq_false e1
          have e3 : ¬ ((n : Int) < (cnt : Int)) := by omega
          have e4 : decide ((n : Int) < (cnt : Int)) = false := decide_eq_false e3
          have HF : Hid (Facts g n comp cnt) := facts_of HSu.out hci
          have HRw : Hid (Row w2 B 3 n (fun i => .int .i64 (comp i))) := hrow
          have HS2 : Hid (SuccAt w2 a1 n g) := HSu.out.below hb2 (Nat.le_refl _)
          have HB2 : Hid (Below wr.heap.size wr w2) := hb1.trans (hb2.mono hb1.size)
          clear hci hrow HSu hb1 hb2 hBs
          go_upto_region 29 with (go_at_call 10; refine (reach_any a1 n g w2 hn1 HS2.out).mono ?_; rintro e w3 ⟨rfl, hra, hb3⟩)
          obtain ⟨R, hR⟩ : ∃ R, R = w2.heap.size := ⟨_, rfl⟩
          rw [← hR] at hra ⊢
          clear hR
          have HC : Hid (∀ v, v < n → w3.cell? ⟨B, v, none⟩ = some (.int .i64 (comp v))) := fun v hv => get_below hb3 (Nat.le_refl _) (HRw.out.cell hv)
          have HRa : Hid (ReachAt w3 R n g) := hra
          obtain ⟨W, hW⟩ : ∃ W, W = wr := ⟨_, rfl⟩
          subst hW
          have HB3 : Hid (Below W.heap.size W w3) := HB2.out.trans (hb3.mono HB2.out.size)
          clear hra hb3 HRw HB2 HS2 e0 e1 e2 e3 e4 HR HZ
          go_wp2_with (at_make; refine wpList_make_row _ rfl _ _ 30 rfl 4 i4 (.bool false) Try.underlying30 hi4 hz04 hz14 rfl _ _ cnt rfl rfl (by rw [hz24]; omega) (by omega) ?_)
          obtain ⟨U, hU⟩ : ∃ U, U = w3.heap.size := ⟨_, rfl⟩
          obtain ⟨W4, hW4⟩ : ∃ W4, W4 = w3.alloc (.cells (madeCells #[.bool false] cnt) 4) := ⟨_, rfl⟩
          rw [← hW4, ← hU]
          have HU0 : Hid (Row W4 U 4 cnt (fun _ => .bool false)) := by rw [hW4, hU]; exact row_make _ _ _ _
          have HW0 : Hid (Below U w3 W4) := by rw [hW4, hU]; exact (Below.refl _ _).alloc (Nat.le_refl _) _
          have hUl : w3.heap.size ≤ U := by rw [hU]; exact Nat.le_refl _
          have HUe : Hid (U = w3.heap.size) := hU
          clear hW4 hU
          go_loopw [13] (fun iv wr => ∃ (i : Nat) (used : Nat → Bool), i ≤ n ∧ iv = .int .i64 i ∧ Hid (Row wr U 4 cnt (fun j => .bool (used j))) ∧ Hid (∀ v, v < i → 0 ≤ comp v → used (comp v).toNat = true) ∧ Hid (Below U w3 wr)) (fun iv _ => n - (intOf iv).toNat)
          case atStart => exact ⟨0, fun _ => false, Nat.zero_le _, rfl, HU0.out, fun v hv => absurd hv (by omega), HW0.out⟩
          case round =>
            clear HU0 HW0
            obtain ⟨i, used, hi, rfl, HUs, HUd, HW⟩ := hrel
            by_cases hlt : i < n
            · obtain ⟨hf1, hf2⟩ := HF.out.f1 i hlt
              have z1 := get_below HW.out hUl (HC.out i hlt)
              obtain ⟨Bi, fi, r1, r2, r3⟩ := HRa.out i hlt
              have y1 := get_below HW.out hUl r1
              have HRi : Hid ((∀ v, v < n → w3.cell? ⟨Bi, v, none⟩ = some (.bool (fi v))) ∧ ∀ v, v < n → (fi v = true ↔ RP g i v)) := ⟨r2, r3⟩
              obtain ⟨ci, hci⟩ : ∃ ci, ci = comp i := ⟨_, rfl⟩
              rw [← hci] at hf1 hf2 z1
              have HCi : Hid (ci = comp i) := hci
              clear hci r1 r2 r3
              have g1 : ¬ (ci < -1) := by omega
              have g2 : decide (ci < -1) = false := decide_eq_false g1
              have g3 : ¬ ((cnt : Int) ≤ ci) := by omega
              have g4 : decide ((cnt : Int) ≤ ci) = false := decide_eq_false g3
              have i0 : (0 : Int) ≤ (i : Int) := by omega
              have i1 : (i : Int) < (n : Int) := by omega
              go_wp2_with fail
              obtain ⟨W5, hW5⟩ : ∃ W5, W5 = wr := ⟨_, rfl⟩
              subst hW5
              go_loopw [15, 16] (fun bv jv wr => ∃ (j : Nat) (b : Bool), j ≤ n ∧ bv = .bool b ∧ jv = .int .i64 j ∧ Hid (wr = W5) ∧ Hid (b = true ↔ ∃ j', j' < j ∧ j' ≠ i ∧ RP g i j' ∧ RP g j' i)) (fun _ jv _ => n - (intOf jv).toNat)
              case atStart => exact ⟨0, false, Nat.zero_le _, rfl, rfl, rfl, ⟨fun h => (by cases h), fun ⟨j', h, _⟩ => absurd h (by omega)⟩⟩
              case round =>
                obtain ⟨j, b, hj, rfl, rfl, hw, HBo⟩ := hrel
                have hw := hw.out
                subst hw
                by_cases hjn : j < n
                · have y2 := get_below HW.out hUl (HRi.out.1 j hjn)
                  obtain ⟨Bj, fj, r1, r2, r3⟩ := HRa.out j hjn
                  have y3 := get_below HW.out hUl r1
                  have y4 := get_below HW.out hUl (r2 i hlt)
                  have HRj : Hid (∀ v, v < n → (fj v = true ↔ RP g j v)) := r3
                  clear r1 r2 r3
                  have j0 : (0 : Int) ≤ (j : Int) := by omega
                  have j1 : (j : Int) < (n : Int) := by omega
                  by_cases hji : j = i
                  · have hne : ((j : Int) != (i : Int)) = false := by rw [hji]; simp
                    go_wp2_with fail
                    go_roundw
                    case rel => exact ⟨j + 1, b, by omega, rfl, by go_num, by first | exact rfl | exact trivial, HBo.out.trans ⟨fun ⟨j', h1, h2⟩ => ⟨j', by omega, h2⟩, fun ⟨j', h1, h2⟩ => ⟨j', by have := h2.1; omega, h2⟩⟩⟩
                    case measure => simp [intOf]; omega
                  · have hne : ((j : Int) != (i : Int)) = true := bne_iff_ne.2 (by omega)
                    cases hfi : fi j with
                    | false =>
                      rw [hfi] at y2
                      have Hno : Hid (¬ RP g i j) := fun h => by have := (HRi.out.2 j hjn).2 h; rw [hfi] at this; cases this
                      go_wp2_with fail
                      go_roundw
                      case rel => exact ⟨j + 1, b, by omega, rfl, by go_num, by first | exact rfl | exact trivial, HBo.out.trans ⟨fun ⟨j', h1, h2⟩ => ⟨j', by omega, h2⟩, fun ⟨j', h1, h2⟩ => ⟨j', by
                        rcases Nat.lt_or_ge j' j with h | h
                        · exact h
                        · obtain rfl : j' = j := by omega
                          exact absurd h2.2.1 Hno.out, h2⟩⟩⟩
                      case measure => simp [intOf]; omega
                    | true =>
                      rw [hfi] at y2
                      cases hfj : fj i with
                      | false =>
                        rw [hfj] at y4
                        have Hno : Hid (¬ RP g j i) := fun h => by have := (HRj.out i hlt).2 h; rw [hfj] at this; cases this
                        go_wp2_with fail
                        go_roundw
                        case rel => exact ⟨j + 1, b, by omega, rfl, by go_num, by first | exact rfl | exact trivial, HBo.out.trans ⟨fun ⟨j', h1, h2⟩ => ⟨j', by omega, h2⟩, fun ⟨j', h1, h2⟩ => ⟨j', by
                          rcases Nat.lt_or_ge j' j with h | h
                          · exact h
                          · obtain rfl : j' = j := by omega
                            exact absurd h2.2.2 Hno.out, h2⟩⟩⟩
                        case measure => simp [intOf]; omega
                      | true =>
                        rw [hfj] at y4
                        have Hyes : Hid (RP g i j ∧ RP g j i) := ⟨(HRi.out.2 j hjn).1 hfi, (HRj.out i hlt).1 hfj⟩
                        go_wp2_with fail
                        go_roundw
                        case rel => exact ⟨j + 1, true, by omega, rfl, by go_num, by first | exact rfl | exact trivial, ⟨fun _ => ⟨j, by omega, hji, Hyes.out⟩, fun _ => rfl⟩⟩
                        case measure => simp [intOf]; omega
                · obtain rfl : n = j := by omega
                  have Hb0 : Hid (b = true ↔ 0 ≤ ci) := by rw [HCi.out]; exact HBo.out.trans (HF.out.f2 i hlt).symm
                  clear HBo
                  by_cases h0 : 0 ≤ ci
                  · obtain rfl : b = true := Hb0.out.2 h0
                    obtain ⟨m, rfl⟩ : ∃ m : Nat, ci = m := ⟨ci.toNat, by omega⟩
                    have hmc : m < cnt := by omega
                    have d0 : decide ((0 : Int) ≤ (m : Int)) = true := decide_eq_true h0
                    have d1 : ¬ ((m : Int) < 0) := by omega
                    have zU := HUs.out.cell hmc
                    have fU := HUs.out.frozen m
                    have u0 : (0 : Int) ≤ (m : Int) := by omega
                    have u1 : (m : Int) < (cnt : Int) := by omega
                    go_wp2_with fail
                    obtain ⟨W6, hW6⟩ : ∃ W6, W6 = wr.setCell ⟨U, m, none⟩ (.bool true) := ⟨_, rfl⟩
                    rw [← hW6]
                    have HW6 : Hid (Below U w3 W6) := by rw [hW6]; exact Below.setCell HW.out (by simp) _
                    have HUs6 : Hid (Row W6 U 4 cnt (fun j => .bool (upd used m true j))) := by
                      rw [hW6, upd_map used Value.bool]; exact HUs.out.set hmc _
                    have y9 : W6.cell? ⟨R, i, none⟩ = some (.slice (some ⟨Bi, 0, none⟩) n n) := by
                      obtain ⟨Bi', fi', r1, _, _⟩ := HRa.out i hlt
                      have e := get_below HW.out hUl r1
                      rw [y1] at e
                      rw [e]; exact get_below HW6.out hUl r1
                    clear hW6 zU fU y1 z1 HUs HW
                    go_loopw [17] (fun jv wr => ∃ j : Nat, j ≤ n ∧ jv = .int .i64 j ∧ Hid (wr = W6)) (fun jv _ => n - (intOf jv).toNat)
                    case atStart => exact ⟨0, Nat.zero_le _, rfl, rfl⟩
                    case round =>
                      obtain ⟨j, hj, rfl, hw⟩ := hrel
                      have hw := hw.out
                      subst hw
                      by_cases hjn : j < n
                      · have z2 := get_below HW6.out hUl (HC.out j hjn)
                        have y2 := get_below HW6.out hUl (HRi.out.1 j hjn)
                        obtain ⟨Bj, fj, r1, r2, r3⟩ := HRa.out j hjn
                        have y3 := get_below HW6.out hUl r1
                        have y4 := get_below HW6.out hUl (r2 i hlt)
                        have HRj : Hid (∀ v, v < n → (fj v = true ↔ RP g j v)) := r3
                        obtain ⟨cj, hcj⟩ : ∃ cj, cj = comp j := ⟨_, rfl⟩
                        rw [← hcj] at z2
                        have HCj : Hid (cj = comp j) := hcj
                        clear r1 r2 r3 hcj
                        have j0 : (0 : Int) ≤ (j : Int) := by omega
                        have j1 : (j : Int) < (n : Int) := by omega
                        by_cases hji : j = i
                        · have hne : ((j : Int) == (i : Int)) = true := by rw [hji]; simp
                          clear hji
                          go_wp2_with fail
                          go_roundw
                          case rel => exact ⟨j + 1, by omega, by go_num, by first | exact rfl | exact trivial⟩
                          case measure => simp [intOf]; omega
                        · have hne : ((j : Int) == (i : Int)) = false := beq_eq_false_iff_ne.2 (by omega)
                          by_cases hneg : cj < 0
                          · have hnb : decide (cj < 0) = true := decide_eq_true hneg
                            go_wp2_with fail
                            go_roundw
                            case rel => exact ⟨j + 1, by omega, by go_num, by first | exact rfl | exact trivial⟩
                            case measure => simp [intOf]; omega
                          · have hnb : decide (cj < 0) = false := decide_eq_false hneg
                            have Hf3 : Hid ((m : Int) = cj ↔ RP g i j ∧ RP g j i) := by
                              rw [HCi.out, HCj.out]
                              exact HF.out.f3 i j hlt hjn hji (by rw [← HCi.out]; exact h0) (by rw [← HCj.out]; omega)
                            have Hf5 : Hid (RP g i j → (m : Int) ≠ cj → cj < (m : Int)) := by
                              rw [HCi.out, HCj.out]
                              exact HF.out.f5 i j hlt hjn hji (by rw [← HCi.out]; exact h0) (by rw [← HCj.out]; omega)
                            by_cases hcc : (m : Int) = cj
                            · have hfi : fi j = true := (HRi.out.2 j hjn).2 (Hf3.out.1 hcc).1
                              have hfj : fj i = true := (HRj.out i hlt).2 (Hf3.out.1 hcc).2
                              rw [hfi] at y2
                              rw [hfj] at y4
                              have b1 : ((m : Int) == cj) = true := beq_iff_eq.2 hcc
                              have b2 : ((m : Int) != cj) = false := by rw [hcc]; simp
                              have HCC : Hid ((m : Int) = cj) := hcc
                              clear hcc
                              go_wp2_with fail
                              go_roundw
                              case rel => exact ⟨j + 1, by omega, by go_num, by first | exact rfl | exact trivial⟩
                              case measure => simp [intOf]; omega
                            · have b1 : ((m : Int) == cj) = false := beq_eq_false_iff_ne.2 hcc
                              have b2 : ((m : Int) != cj) = true := bne_iff_ne.2 hcc
                              cases hfi : fi j with
                              | false =>
                                rw [hfi] at y2
                                go_wp2_with fail
                                go_roundw
                                case rel => exact ⟨j + 1, by omega, by go_num, by first | exact rfl | exact trivial⟩
                                case measure => simp [intOf]; omega
                              | true =>
                                have hr1 : RP g i j := (HRi.out.2 j hjn).1 hfi
                                have hfj : fj i = false := by
                                  cases h : fj i with
                                  | false => rfl
                                  | true => exact absurd (Hf3.out.2 ⟨hr1, (HRj.out i hlt).1 h⟩) hcc
                                have hlt5 := Hf5.out hr1 hcc
                                have b3 : decide ((m : Int) ≤ cj) = false := decide_eq_false (by omega)
                                have b4 : ¬ ((m : Int) ≤ cj) := by omega
                                rw [hfi] at y2
                                rw [hfj] at y4
                                go_wp2_with fail
                                go_roundw
                                case rel => exact ⟨j + 1, by omega, by go_num, by first | exact rfl | exact trivial⟩
                                case measure => simp [intOf]; omega
                      · obtain rfl : n = j := by omega
                        go_wp2_with fail
                        go_roundw
                        case rel => exact ⟨i + 1, upd used m true, by omega, by go_num, HUs6.out, fun v hv h1 => by
                          by_cases e : (comp v).toNat = m
                          · rw [e, upd_same]
                          · rw [upd_ne _ _ e]
                            rcases Nat.lt_or_ge v i with h | h
                            · exact HUd.out v h h1
                            · obtain rfl : v = i := by omega
                              rw [← HCi.out] at e
                              exact absurd (by simp) e, HW6.out⟩
                        case measure => simp [intOf]; omega
                  · obtain rfl : b = false := by
                      cases b
                      · rfl
                      · exact absurd (Hb0.out.1 rfl) h0
                    have d0 : decide ((0 : Int) ≤ ci) = false := decide_eq_false h0
                    have d1 : ci < 0 := by omega
                    go_wp2_with fail
                    go_roundw
                    case rel => exact ⟨i + 1, used, by omega, by go_num, HUs.out, fun v hv h1 => by
                      rcases Nat.lt_or_ge v i with h | h
                      · exact HUd.out v h h1
                      · obtain rfl : v = i := by omega
                        rw [← HCi.out] at h1
                        exact absurd h1 h0, HW.out⟩
                    case measure => simp [intOf]; omega
            · obtain rfl : n = i := by omega
              go_wp2_with fail
              obtain ⟨W7, hW7⟩ : ∃ W7, W7 = wr := ⟨_, rfl⟩
              subst hW7
              go_loopw [20] (fun kv wr => ∃ k : Nat, k ≤ cnt ∧ kv = .int .i64 k ∧ Hid (wr = W7)) (fun kv _ => cnt - (intOf kv).toNat)
              case atStart => exact ⟨0, Nat.zero_le _, rfl, rfl⟩
              case round =>
                obtain ⟨k, hk, rfl, hw⟩ := hrel
                have hw := hw.out
                subst hw
                by_cases hkc : k < cnt
                · have hus : used k = true := by
                    obtain ⟨v, hv, hcv⟩ := HF.out.f4 k hkc
                    have h1 := HUd.out v hv (by omega)
                    rw [hcv] at h1
                    simpa using h1
                  have zU := HUs.out.cell hkc
                  rw [hus] at zU
                  have k0 : (0 : Int) ≤ (k : Int) := by omega
                  have k1 : (k : Int) < (cnt : Int) := by omega
                  go_wp2_with fail
                  go_roundw
                  case rel => exact ⟨k + 1, by omega, by go_num, by first | exact rfl | exact trivial⟩
                  case measure => simp [intOf]; omega
                · have k1 : ¬ (k : Int) < (cnt : Int) := by omega
                  go_wp2_with fail
                  go_ret
                  exact ⟨rfl, HB3.out.trans (HW.out.mono (by have := HB3.out.size; omega))⟩
end Go.Proofs.Qxb6604039a
