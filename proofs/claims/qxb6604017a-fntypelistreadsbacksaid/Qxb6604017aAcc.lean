import Derived.Test.Qxb6604017aSchema
import Derived.Deep.RegionWith
namespace Go.Proofs.Qxb6604017a
open Go.RowKit

theorem eq25 (a b c d : ByteArray) (p q : Bool) (w : World) : (binOp .eql 25 (.agg #[.string a, .bool p, .string b]) (.agg #[.string c, .bool q, .string d])).run Try.prog w = .ok (.bool (a.toList == c.toList && (p == q && b.toList == d.toList))) w := by
  have u9 := Try.underlying9
  have u4 := Try.underlying4
  have a9 := Try.isAgg9
  have a4 := Try.isAgg4
  have z9 := Try.sizeOf9
  have z4 := Try.sizeOf4
  have hS : Try.prog.underlying 25 = some (.struct (Try.prog.fieldsOf 25)) := by kernel_rfl
  have hp : Try.prog.stoodInHeld 25 = false := by kernel_rfl
  rw [run_eql_struct, show (10000 : Nat) = 9999 + 1 from rfl, run_equalIn_agg w 9999 25 _ _ hS hp]
  simp only [Program.fieldsOf, Try.underlying25]
  go_simp
  by_cases e1 : a.toList = c.toList <;> by_cases e2 : p = q <;> by_cases e3 : b.toList = d.toList <;> simp [e1, e2, e3]
theorem eq25_same (t : K3) (w : World) : (binOp .eql 25 (.agg #[.string t.ty, .bool t.wild, .string t.rel]) (.agg #[.string t.ty, .bool t.wild, .string t.rel])).run Try.prog w = .ok (.bool true) w := by
  rw [eq25]; simp
theorem krow_cells {w w' : World} {g n k : Nat} {ts : List K3} {t : K3} (h : KRow w g n ts n) (hk : k < n) (ht : ts[k]? = some t) (hb : Below w.heap.size w w') :
    w'.cell? ⟨g, k * 3, none⟩ = some (.string t.ty) ∧ w'.cell? ⟨g, k * 3 + 1, none⟩ = some (.bool t.wild) ∧ w'.cell? ⟨g, k * 3 + 2, none⟩ = some (.string t.rel) := by
  obtain ⟨C, h1, h2, h3⟩ := h
  have hg : g < w.heap.size := (Array.getElem?_eq_some_iff.1 h1).1
  obtain ⟨c1, c2, c3⟩ := h3 k t hk ht
  refine ⟨?_, ?_, ?_⟩
  · rw [hb.cell (p := ⟨g, k * 3, none⟩) hg]; simp only [World.cell?, h1]; simpa using c1
  · rw [hb.cell (p := ⟨g, k * 3 + 1, none⟩) hg]; simp only [World.cell?, h1]; simpa using c2
  · rw [hb.cell (p := ⟨g, k * 3 + 2, none⟩) hg]; simp only [World.cell?, h1]; simpa using c3
theorem krow_below {w w' : World} {g n k : Nat} {ts : List K3} (h : KRow w g n ts k) (hb : Below w.heap.size w w') : KRow w' g n ts k := by
  obtain ⟨C, h1, h2, h3⟩ := h
  exact ⟨C, by rw [hb.block g (Array.getElem?_eq_some_iff.1 h1).1]; exact h1, h2, h3⟩
theorem keep4 {w w' : World} {a b c d : Addr} {x y z v : Value} (hb : Below w.heap.size w w') (h : w.cell? a = some x ∧ w.cell? b = some y ∧ w.cell? c = some z ∧ w.cell? d = some v) : w'.cell? a = some x ∧ w'.cell? b = some y ∧ w'.cell? c = some z ∧ w'.cell? d = some v :=
  ⟨(hb.cell (World.block_lt_of_cell? _ _ h.1)).trans h.1, (hb.cell (World.block_lt_of_cell? _ _ h.2.1)).trans h.2.1, (hb.cell (World.block_lt_of_cell? _ _ h.2.2.1)).trans h.2.2.1, (hb.cell (World.block_lt_of_cell? _ _ h.2.2.2)).trans h.2.2.2⟩
/-- The kind v stands in the row: slices.Index finds a place. -/
def IOut (w : World) (e : Ending) (w' : World) : Prop := ∃ r, e = .returned (.int .i64 r) ∧ 0 ≤ r ∧ Below w.heap.size w w'

set_option maxHeartbeats 2000000 in
set_option maxRecDepth 100000 in
theorem index_any (g n i0 : Nat) (ts : List K3) (t : K3) (w : World) (hn : n ≤ 65536) (hl : ts.length = n) (h : KRow w g n ts n) (ht : ts[i0]? = some t) :
    Calls Try.prog 22 #[.slice (some ⟨g, 0, none⟩) n n, .agg #[.string t.ty, .bool t.wild, .string t.rel]] w fun e w' => IOut w e w' := by
  have hg : g < w.heap.size := by obtain ⟨C, h1, _⟩ := h; exact (Array.getElem?_eq_some_iff.1 h1).1
  have hi0 : i0 < n := by have := (List.getElem?_eq_some_iff.1 ht).1; omega
  have HK : Hid (KRow w g n ts n) := h
  have HT : Hid (ts[i0]? = some t) := ht
  have HLn : Hid (ts.length = n) := hl
  clear h ht hl
  go_enter Try.func22, Try.ntmps22
  go_wp2
  obtain ⟨W1, hW1⟩ : ∃ W1, W1 = w.alloc (.cells #[.string t.ty, .bool t.wild, .string t.rel] 25) := ⟨_, rfl⟩
  have hb1 : Below w.heap.size w W1 := by rw [hW1]; exact (Below.refl _ _).alloc (Nat.le_refl _) _
  have z1 : W1.cell? ⟨w.heap.size, 0, none⟩ = some (.string t.ty) := by rw [hW1]; simp [go_sem]
  have z2 : W1.cell? ⟨w.heap.size, 1, none⟩ = some (.bool t.wild) := by rw [hW1]; simp [go_sem]
  have z3 : W1.cell? ⟨w.heap.size, 2, none⟩ = some (.string t.rel) := by rw [hW1]; simp [go_sem]
  rw [← hW1]
  clear hW1
  go_loopw [8] (fun i wr => ∃ k : Nat, k ≤ i0 ∧ i = .int .i64 k ∧ ∃ q, wr = W1.drewN q) (fun i _ => n - (intOf i).toNat)
  case atStart => exact ⟨0, Nat.zero_le _, rfl, 0, rfl⟩
  case round =>
    obtain ⟨k, hk, rfl, q, rfl⟩ := hrel
    obtain ⟨u, hu⟩ : ∃ u, ts[k]? = some u := ⟨_, List.getElem?_eq_getElem (by rw [HLn.out]; omega)⟩
    obtain ⟨c1, c2, c3⟩ := krow_cells HK.out (by omega) hu hb1
    have i0' : (0 : Int) ≤ (k : Int) := by omega
    have i1 : (k : Int) < (n : Int) := by omega
    have heq := eq25 t.ty t.rel u.ty u.rel t.wild u.wild
    have HU : Hid (ts[k]? = some u) := hu
    generalize hB : (t.ty.toList == u.ty.toList && (t.wild == u.wild && t.rel.toList == u.rel.toList)) = B at heq
    have HB : Hid ((t.ty.toList == u.ty.toList && (t.wild == u.wild && t.rel.toList == u.rel.toList)) = B) := hB
    clear hu hB
    cases B
    · have hki : k < i0 := by
        rcases Nat.lt_or_ge k i0 with h | h
        · exact h
        · exfalso
          obtain rfl : k = i0 := by omega
          have h1 := HU.out
          rw [HT.out] at h1
          obtain rfl : t = u := Option.some.inj h1
          have h2 := HB.out
          simp at h2
      go_wp2_with fail
      go_quiet (fail)
      go_wp2
      go_roundw
      case rel => exact ⟨k + 1, by omega, by go_num, _, rfl⟩
      case measure => simp [intOf]; omega
    · go_wp2_with fail
      go_quiet (fail)
      go_wp2
      go_ret
      exact ⟨_, rfl, by omega, below_drewN (below_drewN hb1 _) _⟩
set_option maxRecDepth 100000 in
theorem contains_any (g n i0 : Nat) (ts : List K3) (t : K3) (w : World) (hn : n ≤ 65536) (hl : ts.length = n) (h : KRow w g n ts n) (ht : ts[i0]? = some t) :
    Calls Try.prog 20 #[.slice (some ⟨g, 0, none⟩) n n, .agg #[.string t.ty, .bool t.wild, .string t.rel]] w fun e w' => e = .returned (.bool true) ∧ Below w.heap.size w w' := by
  have HK : Hid (KRow w g n ts n) := h
  have HT : Hid (ts[i0]? = some t) := ht
  have HLn : Hid (ts.length = n) := hl
  clear h ht hl
  go_enter Try.func20, Try.ntmps20
  go_wp2_with (go_at_call 22; refine (index_any g n i0 ts t _ hn HLn.out (krow_below HK.out ((Below.refl _ _).alloc (Nat.le_refl _) _)) HT.out).mono ?_; rintro e w1 ⟨r, rfl, hr, hb1⟩)
  go_ret
  exact ⟨rfl, ((Below.refl _ _).alloc (Nat.le_refl _) _).trans (hb1.mono (by simp))⟩

theorem subject_any (a b c : ByteArray) (w : World) :
    Calls Try.prog 17 #[.string a, .string b, .string c] w fun e w' => e = .returned (.agg #[.string a, .string b, .string c]) ∧ Below w.heap.size w w' := by
  go_enter Try.func17, Try.ntmps17
  go_wp2
  exact bodyPost_ret (v := .agg #[.string a, .string b, .string c]) (by simp [results, Try.results17, go_sem]) rfl ⟨rfl, by repeat (first | exact Below.refl _ _ | refine Below.drew ?_ | refine Below.alloc ?_ (by first | (simp; done) | (simp; omega)) _)⟩

set_option maxHeartbeats 2000000 in
set_option maxRecDepth 100000 in
theorem accepts_any (br g n i0 : Nat) (ts : List K3) (t : K3) (id : ByteArray) (hid : (id.toList == [42]) = t.wild) (w : World) (hn : n ≤ 65536) (hl : ts.length = n) (h : KRow w g n ts n) (ht : ts[i0]? = some t) (hr : w.cell? ⟨br, 1, none⟩ = some (.slice (some ⟨g, 0, none⟩) n n)) :
    Calls Try.prog 16 #[.pointer (some ⟨br, 0, none⟩), .agg #[.string t.ty, .string id, .string t.rel]] w fun e w' => e = .returned (.bool true) ∧ Below w.heap.size w w' := by
  have HK : Hid (KRow w g n ts n) := h
  have HT : Hid (ts[i0]? = some t) := ht
  have HLn : Hid (ts.length = n) := hl
  have hbr := World.block_lt_of_cell? _ _ hr
  have hbr' : br < w.heap.size := hbr
  clear h ht hl hbr
  go_enter Try.func16, Try.ntmps16
  go_wp2
  go_region_held3 (fun w' => w'.cell? ⟨br, 1, none⟩ = some (.slice (some ⟨g, 0, none⟩) n n) ∧ w'.cell? ⟨w.heap.size, 0, none⟩ = some (.string t.ty) ∧ w'.cell? ⟨w.heap.size, 1, none⟩ = some (.string id) ∧ w'.cell? ⟨w.heap.size, 2, none⟩ = some (.string t.rel)) (first | (simp [go_sem, *]; done) | exact keep4 hb1 (by simp [go_sem, *]))
    ((go_at_call 20; refine (contains_any g n i0 ts t _ hn HLn.out (krow_below HK.out (by exact ((Below.refl _ _).alloc (Nat.le_refl _) _).drew)) HT.out).mono ?_; rintro e w1 ⟨rfl, hb1⟩))
  all_goals
    go_wp2
    go_ret
    exact ⟨rfl, (((Below.refl _ _).alloc (Nat.le_refl _) _).drew).trans (hb1.mono (by simp))⟩
end Go.Proofs.Qxb6604017a
