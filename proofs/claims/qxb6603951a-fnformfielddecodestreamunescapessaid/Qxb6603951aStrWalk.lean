import Derived.Test.Qxb6603951aStr
import Derived.Deep.RegionHeld3
import Derived.Deep.DeepCutAuto
import Derived.Deep.QuietTactic
import Derived.BigQuiet
import Derived.WalkSmall
namespace Go.Proofs.Qxb6603951a
open Go.RowKit
theorem setCell_id {w : World} {a : Addr} {v : Value} (h : w.cell? a = some v) : w.setCell a v = w := by
  have hh : w.heap.modify a.block (fun
      | .cells c elem frozen => .cells (if a.spot.isSome then c else c.setIfInBounds a.off v) elem frozen
      | o => o) = w.heap := by
    apply Array.ext (by simp)
    intro i h1 h2
    rw [Array.getElem_modify]
    split
    · rename_i e
      subst e
      simp only [World.cell?, Array.getElem?_eq_getElem h2] at h
      split at h
      · rename_i c t f heq
        simp only [Option.some.injEq] at heq
        rw [heq]
        split at h
        · simp at h
        · rename_i hs
          simp only [hs, if_false, Bool.false_eq_true]
          congr 1
          apply Array.ext (by simp)
          intro j g1 g2
          rw [Array.getElem_setIfInBounds]
          split
          · rename_i e; subst e
            rw [Array.getElem?_eq_getElem g2] at h
            simpa using h.symm
          · rfl
      · simp at h
    · rfl
  have e : (w.setCell a v).heap = w.heap := hh
  show ({ w with heap := (w.setCell a v).heap } : World) = w
  rw [e]
theorem Try.info5 : (Try.prog.info? 5).map (fun i => (i.zero, i.size, i.bytes)) = some (some (.int .u8 0), 1, 1) := by kernel_rfl

theorem zzb_any (s : ByteArray) (w : World) (hs : s.size ≤ maxLen) :
    Calls Try.prog 16 #[.string s] w fun e w' => e = .returned (.bool (decide ((s.size : Int) ≤ 1048576))) ∧ w' = w := by
  unfold maxLen at hs
  by_cases h : (s.size : Int) ≤ 1048576
  · rw [decide_eq_true h]
    go_enter Try.func16, Try.ntmps16
    go_wp2
    go_ret
    exact ⟨rfl, rfl⟩
  · rw [decide_eq_false h]
    go_enter Try.func16, Try.ntmps16
    go_wp2
    go_ret
    exact ⟨rfl, rfl⟩

theorem zzb_true (s : ByteArray) (w : World) (hs : s.size ≤ maxLen) (h : (s.size : Int) ≤ 1048576) :
    Calls Try.prog 16 #[.string s] w fun e w' => e = .returned (.bool true) ∧ w = w' := by
  have := zzb_any s w hs
  rw [decide_eq_true h] at this
  exact this.mono fun e w' h => ⟨h.1, h.2.symm⟩
theorem zzb_false (s : ByteArray) (w : World) (hs : s.size ≤ maxLen) (h : ¬ (s.size : Int) ≤ 1048576) :
    Calls Try.prog 16 #[.string s] w fun e w' => e = .returned (.bool false) ∧ w' = w := by
  have := zzb_any s w hs
  rwa [decide_eq_false h] at this

set_option maxRecDepth 100000 in
theorem str_big (s : ByteArray) (w : World) (hs : s.size ≤ maxLen) (hb : 65536 < (s.size : Int)) :
    Calls Try.prog 7 #[.string s] w fun e w' => e = .returned (.bool true) ∧ Below w.heap.size w w' := by
  by_cases h : (s.size : Int) ≤ 1048576
  · go_enter Try.func7, Try.ntmps7
    go_wp2_with (go_at_call 16; refine (zzb_true s _ hs h).mono ?_; rintro e w' ⟨rfl, rfl⟩)
    go_ret
    exact ⟨rfl, Below.refl _ _⟩
  · go_enter Try.func7, Try.ntmps7
    go_wp2_with (go_at_call 16; refine (zzb_false s _ hs h).mono ?_; rintro e w' ⟨rfl, rfl⟩)
    go_ret
    exact ⟨rfl, Below.refl _ _⟩

def Rel1 (s : ByteArray) (w : World) (iv nd ln es ed br got i : Value) (wr : World) : Prop :=
  ∃ (k : Nat) (gt : List Int) (es' ed' : Int) (br' : Bool), k ≤ s.size ∧ M s k = ⟨gt, es', ed', br'⟩ ∧ iv = .bool false ∧ nd = .bool false ∧ ln = .int .i64 0 ∧ es = .int .i64 es' ∧ ed = .int .u8 ed' ∧ br = .bool br' ∧ i = .int .i64 k ∧
    got = .slice (some ⟨w.heap.size + 1, 0, none⟩) gt.length s.size ∧ wr.ownsRow (w.heap.size + 1) 5 1 (.slice (some ⟨w.heap.size + 1, 0, none⟩) gt.length s.size) gt.length (gt.map (Value.int .u8)) ∧
    wr.heap[w.heap.size]? = some (.cells #[.int .u8 0, .int .u8 0, .int .u8 0, .int .u8 0, .int .u8 0, .int .u8 0, .int .u8 0, .int .u8 0] 29) ∧ Below w.heap.size w wr ∧ w.heap.size + 1 < wr.heap.size

theorem blk8 {wr : World} {b : Nat} (h : wr.heap[b]? = some (.cells #[.int .u8 0, .int .u8 0, .int .u8 0, .int .u8 0, .int .u8 0, .int .u8 0, .int .u8 0, .int .u8 0] 29)) :
    wr.cell? ⟨b, 0, none⟩ = some (.int .u8 0) ∧ wr.cell? ⟨b, 1, none⟩ = some (.int .u8 0) ∧ wr.cell? ⟨b, 2, none⟩ = some (.int .u8 0) ∧ wr.cell? ⟨b, 3, none⟩ = some (.int .u8 0) ∧ wr.cell? ⟨b, 4, none⟩ = some (.int .u8 0) ∧ wr.cell? ⟨b, 5, none⟩ = some (.int .u8 0) ∧ wr.cell? ⟨b, 6, none⟩ = some (.int .u8 0) ∧ wr.cell? ⟨b, 7, none⟩ = some (.int .u8 0) ∧
    wr.frozen? ⟨b, 0, none⟩ = false ∧ wr.frozen? ⟨b, 1, none⟩ = false ∧ wr.frozen? ⟨b, 2, none⟩ = false ∧ wr.frozen? ⟨b, 3, none⟩ = false ∧ wr.frozen? ⟨b, 4, none⟩ = false ∧ wr.frozen? ⟨b, 5, none⟩ = false ∧ wr.frozen? ⟨b, 6, none⟩ = false ∧ wr.frozen? ⟨b, 7, none⟩ = false := by
  simp [World.cell?, World.frozen?, h]
theorem rel1_start {s : ByteArray} {w w0 : World} (hown0 : w0.ownsRow (w.heap.size + 1) 5 1 (.slice (some ⟨w.heap.size + 1, 0, none⟩) 0 s.size) 0 [])
    (hgrow0 : (w.alloc (.cells #[.int .u8 0, .int .u8 0, .int .u8 0, .int .u8 0, .int .u8 0, .int .u8 0, .int .u8 0, .int .u8 0] 29)).grownBy w0 none) :
    Rel1 s w (.bool false) (.bool false) (.int .i64 0) (.int .i64 0) (.int .u8 0) (.bool false) (.slice (some ⟨w.heap.size + 1, 0, none⟩) 0 s.size) (.int .i64 0) w0 := by
  refine ⟨0, [], 0, 0, false, Nat.zero_le _, rfl, rfl, rfl, rfl, rfl, rfl, rfl, rfl, rfl, hown0, ?_, ?_, (hown0.lt _ rfl).2⟩
  · rw [hgrow0.block _ (by simp) (by simp)]; exact heap_alloc_new w _
  · exact ((Below.refl _ w).alloc (Nat.le_refl _) _).grown hgrow0 (by simp) (fun k h => by cases h)

theorem own_below {wr wx : World} {b : Nat} {e : TypeId} {v : Value} {n : Nat} {xs : List Value} (h : wr.ownsRow b e 1 v n xs) (hb : Below wr.heap.size wr wx) : wx.ownsRow b e 1 v n xs :=
  h.kept (row := none) ⟨hb.os, hb.tape, hb.output, hb.size, fun k hk _ => hb.block k hk⟩ (by cases v.ownBlock <;> simp)
theorem rel1_drop {s : ByteArray} {w wr wx : World} {k : Nat} {gt : List Int} {es ed : Int} {br : Bool} (hM : M s k = ⟨gt, es, ed, br⟩) (hlt : k < s.size) (hok : dOk es (s[k].toNat : Int) = false)
    (hB : wr.heap[w.heap.size]? = some (.cells #[.int .u8 0, .int .u8 0, .int .u8 0, .int .u8 0, .int .u8 0, .int .u8 0, .int .u8 0, .int .u8 0] 29))
    (hown : wr.ownsRow (w.heap.size + 1) 5 1 (.slice (some ⟨w.heap.size + 1, 0, none⟩) gt.length s.size) gt.length (gt.map (Value.int .u8))) (hbel : Below w.heap.size w wr) (hsz : w.heap.size + 1 < wr.heap.size) (hbx : Below wr.heap.size wr wx) :
    Rel1 s w (.bool false) (.bool false) (.int .i64 0) (.int .i64 (dEs es (s[k].toNat : Int))) (.int .u8 (dEd es ed (s[k].toNat : Int))) (.bool (dBr es br (s[k].toNat : Int))) (.slice (some ⟨w.heap.size + 1, 0, none⟩) gt.length s.size) (.int .i64 ((k : Int) + 1)) wx := by
  have h := M_succ hM hlt
  rw [hok] at h
  refine ⟨k + 1, gt, _, _, _, by omega, h, rfl, rfl, rfl, rfl, rfl, rfl, by go_num, rfl, own_below hown hbx, ?_, hbel.trans (hbx.mono (by omega)), by have := hbx.size; omega⟩
  rw [hbx.block _ (by omega)]; exact hB
theorem rel1_keep {s : ByteArray} {w wr wx w1 : World} {k : Nat} {gt : List Int} {es ed : Int} {br : Bool} {o : Obj} (hM : M s k = ⟨gt, es, ed, br⟩) (hlt : k < s.size) (hok : dOk es (s[k].toNat : Int) = true)
    (hB : wr.heap[w.heap.size]? = some (.cells #[.int .u8 0, .int .u8 0, .int .u8 0, .int .u8 0, .int .u8 0, .int .u8 0, .int .u8 0, .int .u8 0] 29))
    (hown1 : w1.ownsRow (w.heap.size + 1) 5 1 (.slice (some ⟨w.heap.size + 1, 0, none⟩) (gt.length + 1) s.size) (gt.length + 1) (gt.map (Value.int .u8) ++ [.int .u8 (dOut es ed (s[k].toNat : Int))])) (hbel : Below w.heap.size w wr) (hsz : w.heap.size + 1 < wr.heap.size) (hbx : Below wr.heap.size wr wx)
    (hg : (wx.alloc o).grownBy w1 (some (w.heap.size + 1))) :
    Rel1 s w (.bool false) (.bool false) (.int .i64 0) (.int .i64 (dEs es (s[k].toNat : Int))) (.int .u8 (dEd es ed (s[k].toNat : Int))) (.bool (dBr es br (s[k].toNat : Int))) (.slice (some ⟨w.heap.size + 1, 0, none⟩) (gt.length + 1) s.size) (.int .i64 ((k : Int) + 1)) w1 := by
  have h := M_succ hM hlt
  rw [hok] at h
  have hs1 := hbx.size
  have hs2 := hg.size
  rw [World.size_alloc] at hs2
  refine ⟨k + 1, gt ++ [dOut es ed (s[k].toNat : Int)], _, _, _, by omega, h, rfl, rfl, rfl, rfl, rfl, rfl, by go_num, by simp, by simpa using hown1, ?_, ?_, by omega⟩
  · rw [hg.block _ (by rw [World.size_alloc]; omega) (by simp), Below.heap_alloc _ _ _ (by omega), hbx.block _ (by omega)]; exact hB
  · exact ((hbel.trans (hbx.mono (by omega))).alloc (by omega) o).grown hg (by rw [World.size_alloc]; omega) (fun k h => by cases h; omega)

def Rel2 (s : ByteArray) (wr : World) (want wbr wes wed i : Value) (wx : World) : Prop :=
  ∃ (k : Nat) (gt : List Int) (es ed : Int) (br : Bool), k ≤ s.size ∧ M s k = ⟨gt, es, ed, br⟩ ∧ (k < s.size → es = 0) ∧ wes = .int .i64 es ∧ wed = .int .u8 ed ∧ wbr = .bool br ∧ i = .int .i64 k ∧
    want = .slice (some ⟨wr.heap.size, 0, none⟩) gt.length s.size ∧ wx.ownsRow wr.heap.size 5 1 (.slice (some ⟨wr.heap.size, 0, none⟩) gt.length s.size) gt.length (gt.map (Value.int .u8)) ∧ Below wr.heap.size wr wx ∧ wr.heap.size < wx.heap.size
theorem rel2_start {s : ByteArray} {wr w3 : World} (hown3 : w3.ownsRow wr.heap.size 5 1 (.slice (some ⟨wr.heap.size, 0, none⟩) 0 s.size) 0 []) (hg : wr.grownBy w3 none) :
    Rel2 s wr (.slice (some ⟨wr.heap.size, 0, none⟩) 0 s.size) (.bool false) (.int .i64 0) (.int .u8 0) (.int .i64 0) w3 :=
  ⟨0, [], 0, 0, false, Nat.zero_le _, rfl, fun _ => rfl, rfl, rfl, rfl, rfl, rfl, hown3, (Below.refl _ _).grown hg (Nat.le_refl _) (fun k h => by cases h), (hown3.lt _ rfl).2⟩

/-- A round of the second loop that appends one byte and comes to i + d. -/
theorem rel2_app {s : ByteArray} {wq wr w1 : World} {i d : Nat} {gu : List Int} {x es ed : Int} {br : Bool} {o : Obj} (hM : M s (i + d) = ⟨gu ++ [x], es, ed, br⟩) (hd : i + d ≤ s.size) (hes : es = 0) (hbx : Below wq.heap.size wq wr) (hsx : wq.heap.size < wr.heap.size)
    (hown1 : w1.ownsRow wq.heap.size 5 1 (.slice (some ⟨wq.heap.size, 0, none⟩) (gu.length + 1) s.size) (gu.length + 1) (gu.map (Value.int .u8) ++ [.int .u8 x])) (hg : (wr.alloc o).grownBy w1 (some wq.heap.size)) :
    Rel2 s wq (.slice (some ⟨wq.heap.size, 0, none⟩) (gu.length + 1) s.size) (.bool br) (.int .i64 es) (.int .u8 ed) (.int .i64 ((i : Int) + d)) w1 := by
  have hs2 := hg.size
  rw [World.size_alloc] at hs2
  refine ⟨i + d, gu ++ [x], es, ed, br, hd, hM, fun _ => hes, rfl, rfl, rfl, by go_num, by simp, by simpa using hown1, ?_, by omega⟩
  exact (hbx.alloc (by omega) o).grown hg (by rw [World.size_alloc]; omega) (fun k h => by cases h; omega)
/-- A round of the second loop that appends nothing: it has come to the end. -/
theorem rel2_end {s : ByteArray} {wq wr : World} {i d : Nat} {gu : List Int} {es ed : Int} {br : Bool} (hM : M s (i + d) = ⟨gu, es, ed, br⟩) (hd : i + d = s.size) (hbx : Below wq.heap.size wq wr) (hsx : wq.heap.size < wr.heap.size)
    (hown : wr.ownsRow wq.heap.size 5 1 (.slice (some ⟨wq.heap.size, 0, none⟩) gu.length s.size) gu.length (gu.map (Value.int .u8))) :
    Rel2 s wq (.slice (some ⟨wq.heap.size, 0, none⟩) gu.length s.size) (.bool br) (.int .i64 es) (.int .u8 ed) (.int .i64 ((i : Int) + d)) wr :=
  ⟨i + d, gu, es, ed, br, by omega, hM, fun h => by omega, rfl, rfl, rfl, by go_num, rfl, hown, hbx, hsx⟩

theorem hexval_w (c : Int) (h0 : 0 ≤ c) (h1 : c ≤ 255) (w : World) :
    Calls Try.prog 14 #[.int .u8 c] w fun e w' => e = .returned (.tuple #[.int .u8 (hexv c), .bool (hexok c)]) ∧ w = w' :=
  (hexval_any c h0 h1 w).mono fun _ _ h => ⟨h.1, h.2.symm⟩

theorem build29 (w : World) : (Instr.build 29 #[]).run Try.prog w = .ok (.agg #[.int .u8 0, .int .u8 0, .int .u8 0, .int .u8 0, .int .u8 0, .int .u8 0, .int .u8 0, .int .u8 0]) w := run_build w 29 _ _ (by kernel_rfl)
theorem own_at {w : World} {b g n c k : Nat} {gt : List Int} (h : w.ownsRow b 5 1 (.slice (some ⟨g, 0, none⟩) n c) n (gt.map (Value.int .u8))) (hk : k < gt.length) : w.cell? ⟨g, k, none⟩ = some (.int .u8 (gt[k]'hk)) := by
  have := h.cells rfl k (.int .u8 (gt[k]'hk)) (by simp [hk])
  have e : (⟨g, 0, none⟩ : Addr).add k = ⟨g, k, none⟩ := by unfold Addr.add; split <;> simp_all
  rwa [e] at this

set_option maxHeartbeats 8000000 in
set_option maxRecDepth 100000 in
theorem str_any (s : ByteArray) (w : World) (hs : s.size ≤ maxLen) (hb : (s.size : Int) ≤ 65536) :
    Calls Try.prog 7 #[.string s] w fun e w' => e = .returned (.bool true) ∧ Below w.heap.size w w' := by
  have hs' := hs
  unfold maxLen at hs'
  obtain ⟨i0, hi, hz0, hz1, hz2⟩ := info_parts Try.info5
  go_enter Try.func7, Try.ntmps7
  go_wp2_with (first | (go_at_call 16; refine (zzb_true s _ hs (by omega)).mono ?_; rintro e w' ⟨rfl, rfl⟩) | (at_make; refine wpList_make_own _ rfl _ _ 22 rfl (w.heap.size + 1) 5 i0 (.int .u8 0) 1 Try.underlying22 hi hz0 hz1 _ _ _ s.size rfl rfl (by omega) (by rw [hz2]; omega) (by unfold maxLen; omega) (by simp) ?_; intro w0 hown0 hgrow0))
  go_loopw [3, 4, 6, 7, 8, 9, 10, 11] (fun iv nd ln es ed br got i wr => Rel1 s w iv nd ln es ed br got i wr) (fun _ _ _ _ _ _ _ i _ => s.size - (intOf i).toNat)
  case atStart => exact rel1_start (by simpa using hown0) hgrow0
  case round =>
    obtain ⟨k, gt, es, ed, br, hk, hM, rfl, rfl, rfl, rfl, rfl, rfl, rfl, rfl, hown, hblk, hbel, hsz⟩ := hrel
    have HM : Hid (M s k = ⟨gt, es, ed, br⟩) := hM
    have HB : Hid (wr.heap[w.heap.size]? = some (.cells #[.int .u8 0, .int .u8 0, .int .u8 0, .int .u8 0, .int .u8 0, .int .u8 0, .int .u8 0, .int .u8 0] 29)) := hblk
    have hgl : gt.length ≤ k := by have := M_len s k; rw [hM] at this; exact this
    obtain ⟨x0, x1, x2, x3, x4, x5, x6, x7, f0, f1, f2, f3, f4, f5, f6, f7⟩ := blk8 hblk
    clear hM hblk
    by_cases hlt : k < s.size
    · have hb8 := UInt8.toNat_lt s[k]
      have hb0 : (0 : Int) ≤ (s[k].toNat : Int) := by omega
      have hb1 : (s[k].toNat : Int) ≤ 255 := by omega
      have m1 : w.heap.size < wr.heap.size := by omega
      have m2 : w.heap.size < wr.heap.size + 1 := by omega
      have m3 : w.heap.size < wr.heap.size + 1 + 1 := by omega
      have m4 : w.heap.size < wr.heap.size + 1 + 1 + 1 := by omega
      go_wp2_with fail
      go_cut [12, 13, 14, 15, 16, 17, 18, 19, 20] (fun s12 s13 s14 s15 s16 s17 s18 s19 s20 wx => s12 = .int .u8 (dOut es ed (s[k].toNat : Int)) ∧ s13 = .bool (dOk es (s[k].toNat : Int)) ∧ s14 = .bool false ∧ s15 = .bool false ∧
          (∃ g, s16 = .pointer (some ⟨g, 0, none⟩) ∧ wx.cell? ⟨g, 0, none⟩ = some (.int .u8 0) ∧ wx.cell? ⟨g, 1, none⟩ = some (.int .u8 0) ∧ wx.cell? ⟨g, 2, none⟩ = some (.int .u8 0) ∧ wx.cell? ⟨g, 3, none⟩ = some (.int .u8 0) ∧ wx.cell? ⟨g, 4, none⟩ = some (.int .u8 0) ∧ wx.cell? ⟨g, 5, none⟩ = some (.int .u8 0) ∧ wx.cell? ⟨g, 6, none⟩ = some (.int .u8 0) ∧ wx.cell? ⟨g, 7, none⟩ = some (.int .u8 0)) ∧
          s17 = .int .i64 0 ∧ s18 = .int .i64 (dEs es (s[k].toNat : Int)) ∧ s19 = .int .u8 (dEd es ed (s[k].toNat : Int)) ∧ s20 = .bool (dBr es br (s[k].toNat : Int)) ∧ Below wr.heap.size wr wx)
      case first =>
        go_region_held3 (fun w' => w'.cell? ⟨w.heap.size, 0, none⟩ = some (.int .u8 0) ∧ w'.cell? ⟨w.heap.size, 1, none⟩ = some (.int .u8 0) ∧ w'.cell? ⟨w.heap.size, 2, none⟩ = some (.int .u8 0) ∧ w'.cell? ⟨w.heap.size, 3, none⟩ = some (.int .u8 0) ∧ w'.cell? ⟨w.heap.size, 4, none⟩ = some (.int .u8 0) ∧ w'.cell? ⟨w.heap.size, 5, none⟩ = some (.int .u8 0) ∧ w'.cell? ⟨w.heap.size, 6, none⟩ = some (.int .u8 0) ∧ w'.cell? ⟨w.heap.size, 7, none⟩ = some (.int .u8 0)) (simp [go_sem, *])
            ((go_at_call 13; refine (zzdec_any false false 0 0 0 0 0 0 0 0 0 es ed br (s[k].toNat : Int) hb0 hb1 _).mono ?_; rintro e w' ⟨rfl, c1, c2, c3, rfl⟩))
        all_goals
          clear x0 x1 x2 x3 x4 x5 x6 x7 f0 f1 f2 f3 f4 f5 f6 f7
          go_wp2_with fail
          go_meet
          case rel => exact ⟨rfl, rfl, rfl, rfl, ⟨_, rfl, by simp [go_sem], by simp [go_sem], by simp [go_sem], by simp [go_sem], by simp [go_sem], by simp [go_sem], by simp [go_sem], by simp [go_sem]⟩, rfl, rfl, rfl, rfl, by repeat (first | exact Below.refl _ _ | refine Below.drew ?_ | refine Below.alloc ?_ (by first | (simp; done) | (simp; omega)) _)⟩
      case rest =>
        obtain ⟨rfl, rfl, rfl, rfl, ⟨g, rfl, y0, y1, y2, y3, y4, y5, y6, y7⟩, rfl, rfl, rfl, rfl, hbx⟩ := hcut
        have z0 := (hbx.cell (p := ⟨w.heap.size, 0, none⟩) m1).trans x0
        have z1 := (hbx.cell (p := ⟨w.heap.size, 1, none⟩) m1).trans x1
        have z2 := (hbx.cell (p := ⟨w.heap.size, 2, none⟩) m1).trans x2
        have z3 := (hbx.cell (p := ⟨w.heap.size, 3, none⟩) m1).trans x3
        have z4 := (hbx.cell (p := ⟨w.heap.size, 4, none⟩) m1).trans x4
        have z5 := (hbx.cell (p := ⟨w.heap.size, 5, none⟩) m1).trans x5
        have z6 := (hbx.cell (p := ⟨w.heap.size, 6, none⟩) m1).trans x6
        have z7 := (hbx.cell (p := ⟨w.heap.size, 7, none⟩) m1).trans x7
        have e0 := (hbx.frozen (p := ⟨w.heap.size, 0, none⟩) m1).trans f0
        have e1 := (hbx.frozen (p := ⟨w.heap.size, 1, none⟩) m1).trans f1
        have e2 := (hbx.frozen (p := ⟨w.heap.size, 2, none⟩) m1).trans f2
        have e3 := (hbx.frozen (p := ⟨w.heap.size, 3, none⟩) m1).trans f3
        have e4 := (hbx.frozen (p := ⟨w.heap.size, 4, none⟩) m1).trans f4
        have e5 := (hbx.frozen (p := ⟨w.heap.size, 5, none⟩) m1).trans f5
        have e6 := (hbx.frozen (p := ⟨w.heap.size, 6, none⟩) m1).trans f6
        have e7 := (hbx.frozen (p := ⟨w.heap.size, 7, none⟩) m1).trans f7
        have d0 := setCell_id z0
        have d1 := setCell_id z1
        have d2 := setCell_id z2
        have d3 := setCell_id z3
        have d4 := setCell_id z4
        have d5 := setCell_id z5
        have d6 := setCell_id z6
        have d7 := setCell_id z7
        clear x0 x1 x2 x3 x4 x5 x6 x7 f0 f1 f2 f3 f4 f5 f6 f7
        have hownx := own_below hown hbx
        have hszx := hbx.size
        cases hok : dOk es (s[k].toNat : Int)
        · go_wp2
          go_roundw
          case rel => exact rel1_drop HM.out hlt hok HB.out hown hbel hsz hbx
          case measure => simp [intOf]; omega
        · go_wp2_with (at_builtin; refine wpList_append_fits _ rfl (.tmp 77) (.tmp 79) 22 rfl (w.heap.size + 1) 5 i0 1 Try.underlying22 hi hz1 (w.heap.size + 1) gt.length s.size _ rfl (hownx.alloc _) ⟨wc.heap.size, 0, none⟩ 1 1 [.int .u8 (dOut es ed (s[k].toNat : Int))] rfl rfl (cell_one_new _ _ _) (by intro u hu; simp at hu; subst hu; rfl) (by omega) ?_; intro w1 hown1 hgrow1)
          go_roundw
          case rel => exact rel1_keep HM.out hlt hok HB.out hown1 hbel hsz hbx hgrow1
          case measure => simp [intOf]; omega
    · obtain rfl : k = s.size := by omega
      have HO : Hid (wr.ownsRow (w.heap.size + 1) 5 1 (.slice (some ⟨w.heap.size + 1, 0, none⟩) gt.length s.size) gt.length (gt.map (Value.int .u8))) := hown
      clear x1 x2 x3 x4 x5 x6 x7 f0 f1 f2 f3 f4 f5 f6 f7 hown hown0 hgrow0 x0
      obtain ⟨wq, hwq⟩ : ∃ wq, wq = wr := ⟨wr, rfl⟩
      subst hwq
      go_wp2_with (at_make; refine wpList_make_own _ rfl _ _ 22 rfl wq.heap.size 5 i0 (.int .u8 0) 1 Try.underlying22 hi hz0 hz1 _ _ _ s.size rfl rfl (by omega) (by rw [hz2]; omega) (by unfold maxLen; omega) (by simp) ?_; intro w3 hown3 hgrow3)
      go_loopw [21, 22, 23, 24, 25] (fun want wbr wes wed i wx => Rel2 s wq want wbr wes wed i wx) (fun _ _ _ _ i _ => s.size - (intOf i).toNat)
      case atStart => exact rel2_start hown3 hgrow3
      case round =>
        clear hown3 hgrow3
        obtain ⟨i, gu, es2, ed2, br2, hil, hM2, hes, rfl, rfl, rfl, rfl, rfl, hown2, hbx, hsx⟩ := hrel
        have HM2 : Hid (M s i = ⟨gu, es2, ed2, br2⟩) := hM2
        have hgl2 : gu.length ≤ i := by have := M_len s i; rw [hM2] at this; exact this
        clear hM2
        by_cases hlt2 : i < s.size
        · obtain rfl : es2 = 0 := hes hlt2
          clear hes
          have hb8 := UInt8.toNat_lt s[i]
          by_cases c43 : (s[i].toNat : Int) = 43
          · have c43b : ((s[i].toNat : Int) == 43) = true := by simp [c43]
            have HC : Hid ((s[i].toNat : Int) = 43) := c43
            clear c43
            go_wp2_with (at_builtin; refine wpList_append_fits _ rfl (.tmp 93) (.tmp 94) 22 rfl wq.heap.size 5 i0 1 Try.underlying22 hi hz1 wq.heap.size gu.length s.size _ rfl (hown2.alloc _) ⟨wr.heap.size, 0, none⟩ 1 1 [.int .u8 32] rfl rfl (cell_one_new _ _ _) (by intro u hu; simp at hu; subst hu; rfl) (by omega) ?_; intro w1 hown1 hgrow1)
            go_roundw
            case rel => exact rel2_app (d := 1) (M_plus HM2.out hlt2 HC.out) (by omega) rfl hbx hsx hown1 hgrow1
            case measure => simp [intOf]; omega
          · have c43b : ((s[i].toNat : Int) == 43) = false := by simp [c43]
            have HC : Hid ((s[i].toNat : Int) ≠ 43) := c43
            clear c43
            by_cases c37 : (s[i].toNat : Int) = 37
            · have c37b : ((s[i].toNat : Int) != 37) = false := by simp [c37]
              have HP : Hid ((s[i].toNat : Int) = 37) := c37
              clear c37
              by_cases l1 : i + 1 < s.size
              · have hx8 := UInt8.toNat_lt s[i + 1]
                have hx0 : (0 : Int) ≤ (s[i + 1].toNat : Int) := by omega
                have hx1 : (s[i + 1].toNat : Int) ≤ 255 := by omega
                have hvx := hexv_bd (s[i + 1].toNat : Int)
                by_cases l2 : i + 2 < s.size
                · have hy8 := UInt8.toNat_lt s[i + 2]
                  have hy0 : (0 : Int) ≤ (s[i + 2].toNat : Int) := by omega
                  have hy1 : (s[i + 2].toNat : Int) ≤ 255 := by omega
                  have hvy := hexv_bd (s[i + 2].toNat : Int)
                  cases ox : hexok (s[i + 1].toNat : Int) <;> cases oy : hexok (s[i + 2].toNat : Int)
                  all_goals
                    have HL : Hid (M s (i + 3) = ⟨gu ++ [hexv (s[i + 1].toNat : Int) * 16 + hexv (s[i + 2].toNat : Int)], 0, hexv (s[i + 1].toNat : Int) * 16 + hexv (s[i + 2].toNat : Int), (br2 || !hexok (s[i + 1].toNat : Int)) || !hexok (s[i + 2].toNat : Int)⟩) := M_lo (M_hi (M_pct HM2.out hlt2 HP.out) l1) l2
                    go_wp2_with fail
                    refine (hexval_w _ hx0 hx1 _).mono ?_
                    rintro e w' ⟨rfl, rfl⟩
                    go_wp2_with fail
                    refine (hexval_w _ hy0 hy1 _).mono ?_
                    rintro e w' ⟨rfl, rfl⟩
                    go_wp2_with ((at_builtin; refine wpList_append_fits _ rfl (.tmp 146) (.tmp 148) 22 rfl wq.heap.size 5 i0 1 Try.underlying22 hi hz1 wq.heap.size gu.length s.size _ rfl (hown2.alloc _) ⟨wr.heap.size, 0, none⟩ 1 1 [.int .u8 (hexv (s[i + 1].toNat : Int) * 16 + hexv (s[i + 2].toNat : Int))] rfl rfl (cell_one_new _ _ _) (by intro u hu; simp at hu; subst hu; rfl) (by omega) ?_; intro w1 hown1 hgrow1))
                    go_roundw
                    case rel => exact rel2_app (d := 3) (by have := HL.out; simpa [ox, oy] using this) (by omega) rfl hbx hsx hown1 hgrow1
                    case measure => simp [intOf]; omega
                · cases ox : hexok (s[i + 1].toNat : Int)
                  all_goals
                    have HL : Hid (M s (i + 2) = ⟨gu, 2, hexv (s[i + 1].toNat : Int) * 16, br2 || !hexok (s[i + 1].toNat : Int)⟩) := M_hi (M_pct HM2.out hlt2 HP.out) l1
                    go_wp2_with (go_at_call 14; refine (hexval_w _ hx0 hx1 _).mono ?_; rintro e w' ⟨rfl, rfl⟩)
                    go_roundw
                    case rel => exact rel2_end (d := 2) (by have := HL.out; simpa [ox] using this) (by omega) hbx hsx hown2
                    case measure => simp [intOf]; omega
              · go_wp2
                go_roundw
                case rel => exact rel2_end (d := 1) (M_pct HM2.out hlt2 HP.out) (by omega) hbx hsx hown2
                case measure => simp [intOf]; omega
            · have c37b : ((s[i].toNat : Int) != 37) = true := by simp [c37]
              have HP : Hid ((s[i].toNat : Int) ≠ 37) := c37
              clear c37
              go_wp2_with (at_builtin; refine wpList_append_fits _ rfl (.tmp 100) (.tmp 102) 22 rfl wq.heap.size 5 i0 1 Try.underlying22 hi hz1 wq.heap.size gu.length s.size _ rfl (hown2.alloc _) ⟨wr.heap.size, 0, none⟩ 1 1 [.int .u8 (s[i].toNat : Int)] rfl rfl (cell_one_new _ _ _) (by intro u hu; simp at hu; subst hu; rfl) (by omega) ?_; intro w1 hown1 hgrow1)
              go_roundw
              case rel => exact rel2_app (d := 1) (M_self HM2.out hlt2 HC.out HP.out) (by omega) rfl hbx hsx hown1 hgrow1
              case measure => simp [intOf]; omega
        · obtain rfl : i = s.size := by omega
          have heq := HM.out.symm.trans HM2.out
          simp only [St.mk.injEq] at heq
          obtain ⟨rfl, rfl, rfl, rfl⟩ := heq
          have hB2 : wr.heap[w.heap.size]? = some (.cells #[.int .u8 0, .int .u8 0, .int .u8 0, .int .u8 0, .int .u8 0, .int .u8 0, .int .u8 0, .int .u8 0] 29) := by rw [hbx.block _ (by omega)]; exact HB.out
          obtain ⟨x0, x1, x2, x3, x4, x5, x6, x7, f0, f1, f2, f3, f4, f5, f6, f7⟩ := blk8 hB2
          have hown1 := own_below HO.out hbx
          have hbw : Below w.heap.size w wr := hbel.trans (hbx.mono (by omega))
          have ha := arr_neq 0 0 0 0 0 0 0 0
          have hbu := build29
          clear hB2 f0 f1 f2 f3 f4 f5 f6 f7
          go_wp2
          clear x0 x1 x2 x3 x4 x5 x6 x7
          go_loopw [32] (fun i wx => ∃ k : Nat, k ≤ gt.length ∧ i = .int .i64 k ∧ wx.ownsRow (w.heap.size + 1) 5 1 (.slice (some ⟨w.heap.size + 1, 0, none⟩) gt.length s.size) gt.length (gt.map (Value.int .u8)) ∧ wx.ownsRow wq.heap.size 5 1 (.slice (some ⟨wq.heap.size, 0, none⟩) gt.length s.size) gt.length (gt.map (Value.int .u8)) ∧ Below w.heap.size w wx) (fun i _ => gt.length - (intOf i).toNat)
          case atStart => exact ⟨0, Nat.zero_le _, rfl, hown1, hown2, hbw⟩
          case round =>
            clear hown1 hown2 hbw
            obtain ⟨k, hk, rfl, ho1, ho2, hb3⟩ := hrel
            by_cases hlt3 : k < gt.length
            · have a1 := own_at ho1 hlt3
              have a2 := own_at ho2 hlt3
              have hi1 : (k : Int) < (gt.length : Int) := by omega
              have hi0 : (0 : Int) ≤ (k : Int) := by omega
              go_wp2_with fail
              go_quiet (fail)
              go_wp2
              go_roundw
              case rel => exact ⟨k + 1, by omega, by go_num, own_below ho1 (below_drewN (Below.refl _ _) _), own_below ho2 (below_drewN (Below.refl _ _) _), below_drewN hb3 _⟩
              case measure => simp [intOf]; omega
            · go_wp2
              go_ret
              exact ⟨rfl, hb3⟩
end Go.Proofs.Qxb6603951a
