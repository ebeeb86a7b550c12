import Derived.Test.Qxb6604039aComps
namespace Go.Proofs.Qxb6604039a
open Go.RowKit
theorem Try.info24 : (Try.prog.info? 24).map (fun i => (i.zero, i.size, i.bytes)) = some (some (.slice none 0 0), 1, 24) := by kernel_rfl

/-- A slice of ints as it is handed in. -/
def Rowed (w : World) (a : Option Addr) (zs : List Int) : Prop :=
  ∀ (j : Nat) z, zs[j]? = some z → ∃ b off, a = some ⟨b, off, none⟩ ∧ w.cell? ⟨b, off + j, none⟩ = some (.int .i64 z)
theorem Rowed.below {w w' : World} {a : Option Addr} {zs : List Int} (h : Rowed w a zs) {B : Nat} (hb : Below B w w') (hB : w.heap.size ≤ B) : Rowed w' a zs := fun j z hz => by
  obtain ⟨b, off, h1, h2⟩ := h j z hz
  exact ⟨b, off, h1, (World.cell?_of_block (hb.block b (Nat.lt_of_lt_of_le (World.block_lt_of_cell? w _ h2) hB))).trans h2⟩

def CIOut (zs : List Int) (w : World) (e : Ending) (w' : World) : Prop :=
  ∃ a c, e = .returned (.slice a zs.length c) ∧ (∀ (j : Nat) z, zs[j]? = some z → ∃ b, w.heap.size ≤ b ∧ a = some ⟨b, 0, none⟩ ∧ w'.cell? ⟨b, j, none⟩ = some (.int .i64 z)) ∧ Below w.heap.size w w'

set_option maxHeartbeats 4000000 in
set_option maxRecDepth 100000 in
theorem cloneInts_some (x : Addr) (n c : Nat) (zs : List Int) (w : World) (hz : zs.length = n) (hn : n ≤ 131072) (h : Rowed w (some x) zs) :
    Calls Try.prog 16 #[.slice (some x) n c] w fun e w' => CIOut zs w e w' := by
  obtain ⟨i3, hi3, hz03, hz13, hz23⟩ := info_parts Try.info3
  have q24 : ∀ (w : World) (a : Option Addr) (n c : Nat), (binOp .eql 24 (.slice a n c) (.slice none 0 0)).run Try.prog w = .ok (.bool a.isNone) w := fun w a n c => Lib.run_eql_slice_nil w _ _ a n c 0 0 Try.underlying24
  have HR : Hid (Rowed w (some x) zs) := h
  have HZ : Hid (zs.length = n) := hz
  clear h hz
  go_enter Try.func16, Try.ntmps16
  go_wp2_with (at_make; refine wpList_make_row _ rfl _ _ 24 rfl 3 i3 (.int .i64 0) Try.underlying24 hi3 hz03 hz13 rfl _ _ n rfl rfl (by rw [hz23]; omega) (by omega) ?_)
  obtain ⟨W0, hW0⟩ : ∃ W0, W0 = w.alloc (.cells (madeCells #[.int .i64 0] n) 3) := ⟨_, rfl⟩
  rw [← hW0]
  have hr0 : Row W0 w.heap.size 3 n (fun i => .int .i64 (if i < 0 then zs.getD i 0 else 0)) := by
    rw [hW0]; exact (row_make w _ n 3).congr (fun i _ => by simp)
  have hb0 : Below w.heap.size w W0 := by rw [hW0]; exact (Below.refl _ _).alloc (Nat.le_refl _) _
  clear hW0
  go_loopw [4] (fun i wr => ∃ k : Nat, k ≤ n ∧ i = .int .i64 k ∧ Row wr w.heap.size 3 n (fun i => .int .i64 (if i < k then zs.getD i 0 else 0)) ∧ Below w.heap.size w wr) (fun i _ => n - (intOf i).toNat)
  case atStart => exact ⟨0, Nat.zero_le _, rfl, hr0, hb0⟩
  case round =>
    clear hr0 hb0
    obtain ⟨k, hk, rfl, hr, hbel⟩ := hrel
    by_cases hlt : k < n
    · obtain ⟨z, hzk⟩ : ∃ z, zs[k]? = some z := ⟨zs[k]'(by have := HZ.out; omega), List.getElem?_eq_getElem _⟩
      obtain ⟨b, off, hx, hc⟩ := (HR.out.below hbel (Nat.le_refl _)) k z hzk
      simp only [Option.some.injEq] at hx
      subst hx
      have z2 := hr.cell hlt
      have f2 := hr.frozen k
      have i0 : (0 : Int) ≤ (k : Int) := by omega
      have i1 : (k : Int) < (n : Int) := by omega
      have hr' : Row (wr.setCell ⟨w.heap.size, k, none⟩ (.int .i64 z)) w.heap.size 3 n (fun i => .int .i64 (if i < k + 1 then zs.getD i 0 else 0)) :=
        (hr.set hlt _).congr (fun i hi => by
          unfold upd
          by_cases e : i = k
          · subst e; simp [List.getD, hzk]
          · rw [if_neg e]
            dsimp only
            by_cases h : i < k
            · rw [if_pos h, if_pos (by omega)]
            · rw [if_neg h, if_neg (by omega)])
      have Hr' : Hid (Row (wr.setCell ⟨w.heap.size, k, none⟩ (.int .i64 z)) w.heap.size 3 n (fun i => .int .i64 (if i < k + 1 then zs.getD i 0 else 0))) := hr'
      clear hr' hr hzk
      go_wp2_with fail
      go_roundw
      case rel => exact ⟨k + 1, by omega, by go_num, Hr'.out, hbel.setCell (by simp) _⟩
      case measure => simp [intOf]; omega
    · obtain rfl : n = k := by omega
      go_wp2_with fail
      go_ret
      refine ⟨some ⟨w.heap.size, 0, none⟩, n, by rw [HZ.out]; rfl, fun j z hj => ⟨w.heap.size, Nat.le_refl _, rfl, ?_⟩, hbel⟩
      have hj' : j < n := by have := (List.getElem?_eq_some_iff.1 hj).1; have := HZ.out; omega
      rw [hr.cell hj', if_pos hj']
      simp [List.getD, hj]

set_option maxRecDepth 100000 in
theorem cloneInts_any (a : Option Addr) (n c : Nat) (zs : List Int) (w : World) (hz : zs.length = n) (hn : n ≤ 131072) (hc : a = none → c = 0) (h : Rowed w a zs) :
    Calls Try.prog 16 #[.slice a n c] w fun e w' => CIOut zs w e w' := by
  cases a with
  | some x => exact cloneInts_some x n c zs w hz hn h
  | none =>
    have h0 : zs = [] := by
      cases zs with
      | nil => rfl
      | cons z zs => obtain ⟨b, off, h1, _⟩ := h 0 z rfl; cases h1
    subst h0
    obtain rfl : n = 0 := hz.symm
    obtain rfl := hc rfl
    have q24 : ∀ (w : World) (a : Option Addr) (n c : Nat), (binOp .eql 24 (.slice a n c) (.slice none 0 0)).run Try.prog w = .ok (.bool a.isNone) w := fun w a n c => Lib.run_eql_slice_nil w _ _ a n c 0 0 Try.underlying24
    go_enter Try.func16, Try.ntmps16
    go_wp2_with fail
    go_ret
    exact ⟨none, 0, rfl, fun j z hj => by simp at hj, Below.refl _ _⟩

/-- The argument: a slice of slices of ints. -/
def GraphAt (w : World) (a : Option Addr) (G : List (List Int)) : Prop :=
  ∀ (i : Nat) zs, G[i]? = some zs → ∃ b off ai ci, a = some ⟨b, off, none⟩ ∧ w.cell? ⟨b, off + i, none⟩ = some (.slice ai zs.length ci) ∧ (ai = none → ci = 0) ∧ Rowed w ai zs
theorem GraphAt.below {w w' : World} {a : Option Addr} {G : List (List Int)} (h : GraphAt w a G) {B : Nat} (hb : Below B w w') (hB : w.heap.size ≤ B) : GraphAt w' a G := fun i zs hz => by
  obtain ⟨b, off, ai, ci, h1, h2, h3, h4⟩ := h i zs hz
  exact ⟨b, off, ai, ci, h1, (World.cell?_of_block (hb.block b (Nat.lt_of_lt_of_le (World.block_lt_of_cell? w _ h2) hB))).trans h2, h3, h4.below hb hB⟩

def BOut (w : World) (e : Ending) (w' : World) : Prop := ∃ b : Bool, e = .returned (.bool b) ∧ w' = w
set_option maxHeartbeats 4000000 in
set_option maxRecDepth 100000 in
theorem zzbytes_any (a : Option Addr) (n c : Nat) (G : List (List Int)) (w : World) (hn : G.length = n) (hmx : n ≤ maxLen) (h : GraphAt w a G) :
    Calls Try.prog 7 #[.slice a n c] w fun e w' => BOut w e w' := by
  unfold maxLen at hmx
  have HR : Hid (GraphAt w a G) := h
  have HZ : Hid (G.length = n) := hn
  clear h hn
  go_enter Try.func7, Try.ntmps7
  by_cases hbig : 1048576 < n
  · have hb : (1048576 : Int) < (n : Int) := by omega
    go_wp2_with fail
    go_ret
    exact ⟨false, rfl, rfl⟩
  · have hb : ¬ (1048576 : Int) < (n : Int) := by omega
    go_wp2_with fail
    go_loopw [3, 4] (fun z i wr => ∃ (k : Nat) (t : Nat), k ≤ n ∧ t ≤ 1048576 ∧ z = .int .i64 t ∧ i = .int .i64 k ∧ Hid (wr = w)) (fun _ i _ => n - (intOf i).toNat)
    case atStart => exact ⟨0, n, Nat.zero_le _, by omega, rfl, rfl, rfl⟩
    case round =>
      obtain ⟨k, t, hk, ht, rfl, rfl, hw⟩ := hrel
      have hw := hw.out
      subst hw
      by_cases hlt : k < n
      · obtain ⟨zs, hzk⟩ : ∃ z, G[k]? = some z := ⟨G[k]'(by have := HZ.out; omega), List.getElem?_eq_getElem _⟩
        obtain ⟨b, off, ai, ci, hx, hc, _, _⟩ := HR.out k zs hzk
        subst hx
        have i0 : (0 : Int) ≤ (k : Int) := by omega
        have i1 : (k : Int) < (n : Int) := by omega
        clear hzk
        obtain ⟨l, hl⟩ : ∃ l, l = zs.length := ⟨_, rfl⟩
        rw [← hl] at hc
        clear hl
        by_cases h1 : 1048576 < l
        · have h1' : (1048576 : Int) < (l : Int) := by omega
          go_wp2_with fail
          go_ret
          exact ⟨false, rfl, rfl⟩
        · have h1' : ¬ (1048576 : Int) < (l : Int) := by omega
          by_cases h2 : 1048576 < t + l
          · have h2' : (1048576 : Int) < (t : Int) + (l : Int) := by omega
            go_wp2_with fail
            go_ret
            exact ⟨false, rfl, rfl⟩
          · have h2' : ¬ (1048576 : Int) < (t : Int) + (l : Int) := by omega
            go_wp2_with fail
            go_roundw
            case rel => exact ⟨k + 1, t + l, by omega, by omega, by simp, by go_num, by first | exact rfl | exact trivial⟩
            case measure => simp [intOf]; omega
      · have h1 : ¬ (k : Int) < (n : Int) := by omega
        go_wp2_with fail
        go_ret
        exact ⟨true, rfl, rfl⟩

/-- The graph cloned, its rows yet of ints. -/
def SuccG (w : World) (a : Option Addr) (G : List (List Int)) : Prop :=
  ∀ (i : Nat) zs, G[i]? = some zs → ∃ b a' c', a = some ⟨b, 0, none⟩ ∧ w.cell? ⟨b, i, none⟩ = some (.slice a' zs.length c') ∧ ∀ (j : Nat) z, zs[j]? = some z → ∃ b', a' = some ⟨b', 0, none⟩ ∧ w.cell? ⟨b', j, none⟩ = some (.int .i64 z)
def CGOut (n : Nat) (G : List (List Int)) (w : World) (e : Ending) (w' : World) : Prop := ∃ a, e = .returned (.slice a n n) ∧ SuccG w' a G ∧ Below w.heap.size w w'
/-- The first k rows are cloned. -/
def Cl (w : World) (T n : Nat) (G : List (List Int)) (k : Nat) : Prop :=
  ∃ vals : Nat → Value, Row w T 24 n vals ∧ ∀ (i : Nat) zs, i < k → G[i]? = some zs → ∃ a' c', vals i = .slice a' zs.length c' ∧ ∀ (j : Nat) z, zs[j]? = some z → ∃ b, T < b ∧ a' = some ⟨b, 0, none⟩ ∧ w.cell? ⟨b, j, none⟩ = some (.int .i64 z)
theorem Cl.next {w w1 : World} {T n k c' : Nat} {G : List (List Int)} {zs : List Int} {a' : Option Addr} (h : Cl w T n G k) (hk : k < n) (hz : G[k]? = some zs) (hb : Below w.heap.size w w1)
    (hc : ∀ (j : Nat) z, zs[j]? = some z → ∃ b, w.heap.size ≤ b ∧ a' = some ⟨b, 0, none⟩ ∧ w1.cell? ⟨b, j, none⟩ = some (.int .i64 z)) :
    Cl (w1.setCell ⟨T, k, none⟩ (.slice a' zs.length c')) T n G (k + 1) := by
  obtain ⟨vals, hr, hv⟩ := h
  have hT := hr.lt
  refine ⟨upd vals k (.slice a' zs.length c'), (hr.below hb hT).set hk _, fun i zs' hi hz' => ?_⟩
  have far : ∀ {b j : Nat} {v : Value}, T < b → w1.cell? ⟨b, j, none⟩ = some v → (w1.setCell ⟨T, k, none⟩ (.slice a' zs.length c')).cell? ⟨b, j, none⟩ = some v := fun {b j v} hb' h =>
    (World.cell?_of_block (Below.heap_setCell _ _ _ _ (by simp; omega))).trans h
  by_cases e : i = k
  · subst e
    rw [hz] at hz'
    cases hz'
    refine ⟨a', c', upd_same _ _ _, fun j z hj => ?_⟩
    obtain ⟨b, h1, h2, h3⟩ := hc j z hj
    exact ⟨b, by omega, h2, far (by omega) h3⟩
  · obtain ⟨a2, c2, h1, h2⟩ := hv i zs' (by omega) hz'
    refine ⟨a2, c2, by rw [upd_ne _ _ e]; exact h1, fun j z hj => ?_⟩
    obtain ⟨b, h3, h4, h5⟩ := h2 j z hj
    exact ⟨b, h3, h4, far h3 ((World.cell?_of_block (hb.block b (World.block_lt_of_cell? w _ h5))).trans h5)⟩

set_option maxHeartbeats 4000000 in
set_option maxRecDepth 100000 in
theorem cloneGraph_some (x : Addr) (n c : Nat) (G : List (List Int)) (w : World) (hn : G.length = n) (hn2 : n ≤ 1024) (hls : ∀ zs ∈ G, zs.length ≤ 131072) (h : GraphAt w (some x) G) :
    Calls Try.prog 8 #[.slice (some x) n c] w fun e w' => CGOut n G w e w' := by
  obtain ⟨i24, hi24, hz024, hz124, hz224⟩ := info_parts Try.info24
  have q22 : ∀ (w : World) (a : Option Addr) (n c : Nat), (binOp .eql 22 (.slice a n c) (.slice none 0 0)).run Try.prog w = .ok (.bool a.isNone) w := fun w a n c => Lib.run_eql_slice_nil w _ _ a n c 0 0 Try.underlying22
  have HR : Hid (GraphAt w (some x) G) := h
  have HZ : Hid (G.length = n ∧ ∀ zs ∈ G, zs.length ≤ 131072) := ⟨hn, hls⟩
  clear h hn hls
  go_enter Try.func8, Try.ntmps8
  go_wp2_with (at_make; refine wpList_make_row _ rfl _ _ 22 rfl 24 i24 (.slice none 0 0) Try.underlying22 hi24 hz024 hz124 rfl _ _ n rfl rfl (by rw [hz224]; omega) (by omega) ?_)
  obtain ⟨W0, hW0⟩ : ∃ W0, W0 = w.alloc (.cells (madeCells #[.slice none 0 0] n) 24) := ⟨_, rfl⟩
  rw [← hW0]
  have hr0 : Hid (Cl W0 w.heap.size n G 0) := by
    rw [hW0]; exact ⟨_, row_make w _ n 24, fun i zs hi => absurd hi (by omega)⟩
  have hb0 : Below w.heap.size w W0 := by rw [hW0]; exact (Below.refl _ _).alloc (Nat.le_refl _) _
  clear hW0
  go_loopw [4] (fun i wr => ∃ k : Nat, k ≤ n ∧ i = .int .i64 k ∧ Hid (Cl wr w.heap.size n G k) ∧ Below w.heap.size w wr) (fun i _ => n - (intOf i).toNat)
  case atStart => exact ⟨0, Nat.zero_le _, rfl, hr0, hb0⟩
  case round =>
    clear hr0 hb0
    obtain ⟨k, hk, rfl, hcl, hbel⟩ := hrel
    by_cases hlt : k < n
    · obtain ⟨zs, hzk⟩ : ∃ z, G[k]? = some z := ⟨G[k]'(by have := HZ.out.1; omega), List.getElem?_eq_getElem _⟩
      obtain ⟨b, off, ai, ci, hx, hc, hnil, hrow⟩ := (HR.out.below hbel (Nat.le_refl _)) k zs hzk
      simp only [Option.some.injEq] at hx
      subst hx
      have i0 : (0 : Int) ≤ (k : Int) := by omega
      have i1 : (k : Int) < (n : Int) := by omega
      obtain ⟨vals, hrw, _⟩ := hcl.out
      have HW : Hid (Row wr w.heap.size 24 n vals) := hrw
      have HX : Hid (G[k]? = some zs ∧ (ai = none → ci = 0) ∧ Rowed wr ai zs) := ⟨hzk, hnil, hrow⟩
      clear hrw
      clear hzk hnil hrow
      go_wp2_with (go_at_call 16; refine (cloneInts_any ai zs.length ci zs wr rfl (HZ.out.2 zs (List.mem_of_getElem? HX.out.1)) HX.out.2.1 HX.out.2.2).mono ?_; rintro e w1 ⟨a', c', rfl, hcc, hb1⟩; have zA := (HW.out.below hb1 HW.out.lt).cell hlt; have fA := (HW.out.below hb1 HW.out.lt).frozen k; have HC : Hid (∀ (j : Nat) z, zs[j]? = some z → ∃ b, wr.heap.size ≤ b ∧ a' = some ⟨b, 0, none⟩ ∧ w1.cell? ⟨b, j, none⟩ = some (.int .i64 z)) := hcc; clear hcc)
      go_roundw
      case rel => exact ⟨k + 1, by omega, by go_num, hcl.out.next hlt HX.out.1 hb1 HC.out, Below.setCell (hbel.trans (hb1.mono hbel.size)) (by simp) _⟩
      case measure => simp [intOf]; omega
    · obtain rfl : n = k := by omega
      go_wp2_with fail
      go_ret
      obtain ⟨vals, hr, hv⟩ := hcl.out
      refine ⟨some ⟨w.heap.size, 0, none⟩, rfl, fun i zs hi => ?_, hbel⟩
      have hin : i < n := by have := (List.getElem?_eq_some_iff.1 hi).1; have := HZ.out.1; omega
      obtain ⟨a', c', h1, h2⟩ := hv i zs hin hi
      refine ⟨w.heap.size, a', c', rfl, by rw [hr.cell hin, h1], fun j z hj => ?_⟩
      obtain ⟨b', _, h3, h4⟩ := h2 j z hj
      exact ⟨b', h3, h4⟩

set_option maxRecDepth 100000 in
theorem cloneGraph_any (a : Option Addr) (n c : Nat) (G : List (List Int)) (w : World) (hn : G.length = n) (hn2 : n ≤ 1024) (hls : ∀ zs ∈ G, zs.length ≤ 131072) (hc : a = none → c = 0) (h : GraphAt w a G) :
    Calls Try.prog 8 #[.slice a n c] w fun e w' => CGOut n G w e w' := by
  cases a with
  | some x => exact cloneGraph_some x n c G w hn hn2 hls h
  | none =>
    have h0 : G = [] := by
      cases G with
      | nil => rfl
      | cons z zs => obtain ⟨b, off, _, _, h1, _⟩ := h 0 z rfl; cases h1
    subst h0
    obtain rfl : n = 0 := hn.symm
    obtain rfl := hc rfl
    have q22 : ∀ (w : World) (a : Option Addr) (n c : Nat), (binOp .eql 22 (.slice a n c) (.slice none 0 0)).run Try.prog w = .ok (.bool a.isNone) w := fun w a n c => Lib.run_eql_slice_nil w _ _ a n c 0 0 Try.underlying22
    go_enter Try.func8, Try.ntmps8
    go_wp2_with fail
    go_ret
    exact ⟨none, rfl, fun j z hj => by simp at hj, Below.refl _ _⟩

/-- The graph cloned, its rows naming nodes. -/
def SuccAt (w : World) (a : Option Addr) (n : Nat) (g : List (List Nat)) : Prop :=
  g.length = n ∧ ∀ v, v < n → ∃ b a' c', a = some ⟨b, 0, none⟩ ∧ w.cell? ⟨b, v, none⟩ = some (.slice a' (sc g v).length c') ∧ (sc g v).length ≤ 131072 ∧
    ∀ (j u : Nat), (sc g v)[j]? = some u → u < n ∧ ∃ b', a' = some ⟨b', 0, none⟩ ∧ w.cell? ⟨b', j, none⟩ = some (.int .i64 u)
theorem SuccAt.below {w w' : World} {a : Option Addr} {n : Nat} {g : List (List Nat)} (h : SuccAt w a n g) {B : Nat} (hb : Below B w w') (hB : w.heap.size ≤ B) : SuccAt w' a n g := by
  have key : ∀ {a : Addr} {v : Value}, w.cell? a = some v → w'.cell? a = some v := fun {a v} hc =>
    (World.cell?_of_block (hb.block a.block (Nat.lt_of_lt_of_le (World.block_lt_of_cell? w a hc) hB))).trans hc
  refine ⟨h.1, fun v hv => ?_⟩
  obtain ⟨b, a', c', h1, h2, h3, h4⟩ := h.2 v hv
  refine ⟨b, a', c', h1, key h2, h3, fun j u hj => ?_⟩
  obtain ⟨h5, b', h6, h7⟩ := h4 j u hj
  exact ⟨h5, b', h6, key h7⟩
theorem succ_of {w : World} {a : Option Addr} {n : Nat} {G : List (List Int)} (hn : G.length = n) (hls : ∀ zs ∈ G, zs.length ≤ 131072) (hr : ∀ zs ∈ G, ∀ z ∈ zs, 0 ≤ z ∧ z < n) (h : SuccG w a G) : SuccAt w a n (G.map fun zs => zs.map Int.toNat) := by
  refine ⟨by simpa using hn, fun v hv => ?_⟩
  have hz : G[v]? = some G[v] := List.getElem?_eq_getElem (by omega)
  have hs : sc (G.map fun zs => zs.map Int.toNat) v = G[v].map Int.toNat := by simp [sc, hz]
  have hmem : G[v] ∈ G := List.getElem_mem _
  obtain ⟨b, a', c', h1, h2, h3⟩ := h v _ hz
  rw [hs]
  refine ⟨b, a', c', h1, by simpa using h2, by simpa using hls _ hmem, fun j u hj => ?_⟩
  rw [List.getElem?_map] at hj
  cases hzj : G[v][j]? with
  | none => rw [hzj] at hj; simp at hj
  | some z =>
    rw [hzj] at hj
    simp at hj
    obtain ⟨h4, h5⟩ := hr _ hmem z (List.mem_of_getElem? hzj)
    obtain ⟨b', h6, h7⟩ := h3 j z hzj
    have e : ((u : Nat) : Int) = z := by rw [← hj]; omega
    exact ⟨by omega, b', h6, by rw [h7, e]⟩
end Go.Proofs.Qxb6604039a
