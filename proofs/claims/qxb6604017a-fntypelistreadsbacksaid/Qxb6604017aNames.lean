import Derived.Test.Qxb6604017aAcc
import Derived.Test.Qxb6604017aShelf
namespace Go.Proofs.Qxb6604017a
open Go.RowKit

def str (t : K3) : ByteArray := if t.wild then t.ty ++ ⟨#[58]⟩ ++ ⟨#[42]⟩ else if t.rel.toList.isEmpty then t.ty else t.ty ++ ⟨#[35]⟩ ++ t.rel
/-- What follows the type. -/
def suf (t : K3) : List UInt8 := if t.wild then [58, 42] else if t.rel.toList.isEmpty then [] else 35 :: t.rel.data.toList
theorem str_bytes (t : K3) : (str t).data.toList = t.ty.data.toList ++ suf t := by
  unfold str suf
  split
  · simp [ByteArray.data_append]
  · split
    · simp
    · simp [ByteArray.data_append]

theorem string_any (t : K3) (w : World) (h1 : t.ty.size ≤ 1048576) (h2 : t.rel.size ≤ 1048576) :
    Calls Try.prog 8 #[.agg #[.string t.ty, .bool t.wild, .string t.rel]] w fun e w' => e = .returned (.string (str t)) ∧ Below w.heap.size w w' := by
  cases hw : t.wild
  · cases hr : t.rel.toList.isEmpty
    · have he : str t = t.ty ++ ⟨#[35]⟩ ++ t.rel := by simp [str, hw, hr]
      rw [he]
      clear he
      go_enter Try.func8, Try.ntmps8
      go_wp2
      go_ret
      exact ⟨rfl, (Below.refl _ _).alloc (Nat.le_refl _) _⟩
    · have he : str t = t.ty := by simp [str, hw, hr]
      rw [he]
      clear he
      go_enter Try.func8, Try.ntmps8
      go_wp2
      go_ret
      exact ⟨rfl, (Below.refl _ _).alloc (Nat.le_refl _) _⟩
  · have he : str t = t.ty ++ ⟨#[58]⟩ ++ ⟨#[42]⟩ := by simp [str, hw]
    rw [he]
    clear he
    go_enter Try.func8, Try.ntmps8
    go_wp2
    go_ret
    exact ⟨rfl, (Below.refl _ _).alloc (Nat.le_refl _) _⟩

theorem Try.info9 : (Try.prog.info? 9).map (fun i => (i.zero, i.size, i.bytes)) = some (some (.string ⟨#[]⟩), 1, 16) := by kernel_rfl
/-- The names so far. -/
def NRow (w : World) (B n : Nat) (ts : List K3) (k : Nat) : Prop :=
  ∃ C : Array Value, w.heap[B]? = some (.cells C 9) ∧ C.size = n ∧ ∀ (j : Nat) (t : K3), j < k → ts[j]? = some t → C[j]? = some (.string (str t))
theorem nrow_made {w : World} {b B n : Nat} {xs : List Value} {ts : List K3} (h : w.ownsRow b 9 1 (.slice (some ⟨B, 0, none⟩) n n) n xs) : NRow w B n ts 0 := by
  rcases h.2 with ⟨h, _⟩ | ⟨g', cap, cur, hv, _, hh, _, _, hs, _⟩
  · simp at h
  · simp only [Value.slice.injEq, Option.some.injEq, Addr.mk.injEq, and_true, true_and] at hv
    obtain ⟨rfl, rfl⟩ := hv
    exact ⟨cur, hh, by simpa using hs, fun j t hj => absurd hj (by omega)⟩
theorem NRow.at {w : World} {B n k : Nat} {ts : List K3} (h : NRow w B n ts k) {i : Nat} (hi : i < n) : (∃ v, w.cell? ⟨B, i, none⟩ = some v) ∧ w.frozen? ⟨B, i, none⟩ = false := by
  obtain ⟨C, h1, h2, _⟩ := h
  refine ⟨⟨C[i]'(by omega), ?_⟩, by simp [World.frozen?, h1]⟩
  simp only [World.cell?, h1]; simp [show i < C.size by omega]
theorem nrow_below {w w' : World} {B n k : Nat} {ts : List K3} (h : NRow w B n ts k) (hb : Below w.heap.size w w') : NRow w' B n ts k := by
  obtain ⟨C, h1, h2, h3⟩ := h
  exact ⟨C, by rw [hb.block B (Array.getElem?_eq_some_iff.1 h1).1]; exact h1, h2, h3⟩
theorem nrow_next {w : World} {B n k : Nat} {ts : List K3} {t : K3} (h : NRow w B n ts k) (hk : k < n) (ht : ts[k]? = some t) : NRow (w.setCell ⟨B, k, none⟩ (.string (str t))) B n ts (k + 1) := by
  obtain ⟨C, h1, h2, h3⟩ := h
  refine ⟨C.setIfInBounds k (.string (str t)), heap_set h1, by simp [h2], fun j u hj hu => ?_⟩
  by_cases e : j = k
  · subst e
    rw [ht] at hu
    obtain rfl : t = u := Option.some.inj hu
    rw [Array.getElem?_setIfInBounds_self_of_lt (by omega)]
  · rw [Array.getElem?_setIfInBounds_ne (by omega)]; exact h3 j u (by omega) hu

/-- The text of a list of kinds. -/
def text (ts : List K3) : List UInt8 := Lib.join (ts.map fun t => (str t).data.toList) [32, 124, 32]

theorem join_len (xs : List (List UInt8)) (sep : List UInt8) (m : Nat) (h : ∀ x ∈ xs, x.length ≤ m) : (Lib.join xs sep).length ≤ xs.length * (m + sep.length) := by
  induction xs with
  | nil => simp [Lib.join, List.intercalate]
  | cons x r ih =>
    have hx := h x (by simp)
    have hr := ih (fun y hy => h y (by simp [hy]))
    cases r with
    | nil => rw [Lib.join_one]; simp; omega
    | cons y r =>
      have e : Lib.join (x :: y :: r) sep = x ++ sep ++ Lib.join (y :: r) sep := by simp [Lib.join, List.intercalate]
      rw [e, List.length_append, List.length_append, List.length_cons, Nat.succ_mul]
      omega
theorem text_len (ts : List K3) (h : ∀ (j : Nat) (t : K3), ts[j]? = some t → t.ty.size ≤ 1048576 ∧ t.rel.size ≤ 1048576) : (text ts).length ≤ ts.length * 2097160 := by
  refine Nat.le_trans (join_len _ _ 2097157 ?_) (by simp)
  intro x hx
  obtain ⟨t, ht, rfl⟩ := List.mem_map.1 hx
  obtain ⟨j, hj⟩ := List.mem_iff_getElem?.1 ht
  obtain ⟨h1, h2⟩ := h j t hj
  have e1 : t.ty.data.toList.length = t.ty.size := rfl
  have e2 : t.rel.data.toList.length = t.rel.size := rfl
  have : (suf t).length ≤ 1048577 := by
    unfold suf; split
    · simp
    · split
      · simp
      · simp only [List.length_cons]; omega
  rw [str_bytes, List.length_append]; omega

set_option maxHeartbeats 2000000 in
set_option maxRecDepth 100000 in
theorem typelist_any (br g n : Nat) (ts : List K3) (w : World) (hn : n ≤ 65536) (hn0 : 0 < n) (hl : ts.length = n) (hsm : ∀ (j : Nat) (t : K3), ts[j]? = some t → t.ty.size ≤ 1048576 ∧ t.rel.size ≤ 1048576) (h : KRow w g n ts n) (hr : w.cell? ⟨br, 1, none⟩ = some (.slice (some ⟨g, 0, none⟩) n n)) :
    Calls Try.prog 19 #[.pointer (some ⟨br, 0, none⟩)] w fun e w' => e = .returned (.string ⟨(text ts).toArray⟩) ∧ Below w.heap.size w w' := by
  obtain ⟨i0, hi, hz0, hz1, hz2⟩ := info_parts Try.info9
  have HK : Hid (KRow w g n ts n) := h
  have HLn : Hid (ts.length = n) := hl
  have HSM : Hid (∀ (j : Nat) (t : K3), ts[j]? = some t → t.ty.size ≤ 1048576 ∧ t.rel.size ≤ 1048576) := hsm
  have hg : g < w.heap.size := by obtain ⟨C, h1, _⟩ := h; exact (Array.getElem?_eq_some_iff.1 h1).1
  have hbr : br < w.heap.size := World.block_lt_of_cell? _ _ hr
  clear h hl hsm
  go_enter Try.func19, Try.ntmps19
  go_wp2_with (at_make; refine wpList_make_full _ rfl _ _ 49 rfl w.heap.size 9 i0 (.string ⟨#[]⟩) 1 Try.underlying49 hi hz0 hz1 _ _ _ _ n rfl rfl (by omega) (by omega) (by rw [hz2]; omega) (by unfold maxLen; omega) (Nat.le_refl _) ?_; intro w1 hown hgrow; have hr1 : w1.cell? ⟨br, 1, none⟩ = some (.slice (some ⟨g, 0, none⟩) n n) := hgrow.cell hr (by simp))
  go_loopw [17] (fun i wr => ∃ k : Nat, k ≤ n ∧ i = .int .i64 k ∧ NRow wr w.heap.size n ts k ∧ Below w.heap.size w wr ∧ w.heap.size < wr.heap.size) (fun i _ => n - (intOf i).toNat)
  case atStart => exact ⟨0, Nat.zero_le _, rfl, nrow_made hown, (Below.refl _ _).grown hgrow (Nat.le_refl _) (fun k h => by cases h), (hown.lt _ rfl).2⟩
  case round =>
    clear hown hgrow hr1
    obtain ⟨k, hk, rfl, hkr, hbel, hgs⟩ := hrel
    by_cases hlt : k < n
    · obtain ⟨t, ht⟩ : ∃ t, ts[k]? = some t := ⟨_, List.getElem?_eq_getElem (by rw [HLn.out]; exact hlt)⟩
      obtain ⟨c1, c2, c3⟩ := krow_cells HK.out hlt ht hbel
      obtain ⟨s1, s2⟩ := HSM.out k t ht
      have i0 : (0 : Int) ≤ (k : Int) := by omega
      have i1 : (k : Int) < (n : Int) := by omega
      have HT : Hid (ts[k]? = some t) := ht
      have HKR : Hid (NRow wr w.heap.size n ts k) := hkr
      have HS8 := fun W => string_any t W s1 s2
      clear ht hkr
      go_wp2_with fail
      refine (HS8 _).mono ?_
      rintro e w2 ⟨rfl, hb2⟩
      have hb2' : Below wr.heap.size wr w2 := ((Below.refl _ _).alloc (Nat.le_refl _) _).trans (hb2.mono (by simp))
      have hkr2 := nrow_below HKR.out hb2'
      obtain ⟨⟨v1, y1⟩, f1⟩ := hkr2.at (i := k) hlt
      have hgs2 := hb2'.size
      have HKR2 : Hid (NRow w2 w.heap.size n ts k) := hkr2
      clear hkr2 c1 c2 c3 HS8 hb2
      go_wp2_with fail
      go_roundw
      case rel => exact ⟨k + 1, by omega, by go_num, nrow_next HKR2.out hlt HT.out, (hbel.trans (hb2'.mono hbel.size)).setCell (Nat.le_refl _) _, by simp [World.size_setCell]; omega⟩
      case measure => simp [intOf]; omega
    · obtain rfl : k = n := by omega
      go_wp2_with fail
      have hxl : (ts.map str).length = k := by simp [HLn.out]
      have hbyt : Lib.join ((ts.map str).map (·.data.toList)) ([32, 124, 32] : List UInt8) = text ts := by simp [text, Function.comp_def]
      have hj := Try.strings_Join w.heap.size 0 k (ts.map str) ⟨#[32, 124, 32]⟩ wr (by
        intro j x hx
        obtain ⟨t, ht, rfl⟩ : ∃ t, ts[j]? = some t ∧ str t = x := by simpa using hx
        have hj : j < k := by have := (List.getElem?_eq_some_iff.1 ht).1; rw [HLn.out] at this; exact this
        obtain ⟨C, h1, h2, h3⟩ := hkr
        simp only [World.cell?, h1]; simpa using h3 j t hj ht) hgs (by omega) (by omega) (by
        rw [show (⟨#[32, 124, 32]⟩ : ByteArray).data.toList = [32, 124, 32] from rfl, hbyt]
        exact Nat.le_trans (text_len ts HSM.out) (by rw [HLn.out]; omega))
      rw [hxl, show (⟨#[32, 124, 32]⟩ : ByteArray).data.toList = [32, 124, 32] from rfl, hbyt] at hj
      refine hj.mono ?_
      rintro e w2 ⟨rfl, hb2⟩
      clear hj hbyt hxl
      go_wp2_with fail
      go_ret
      exact ⟨rfl, hbel.trans (hb2.mono hbel.size)⟩
end Go.Proofs.Qxb6604017a
