import Derived.Test.Qxb6603969aPres
namespace Go.Proofs.Qxb6603969a
open Go.RowKit

/-! ### the canonical key as plain Lean -/
def low (c : Int) : Int := if 65 ≤ c ∧ c ≤ 90 then c + 32 else c
theorem ret_u8 {a b : Int} (h : a = b) : Ending.returned (.int .u8 a) = .returned (.int .u8 b) := by rw [h]
theorem low_bd (c : Int) (h : 0 ≤ c ∧ c ≤ 255) : 0 ≤ low c ∧ low c ≤ 255 := by unfold low; split <;> omega
theorem lowerByte_any (c : Int) (h0 : 0 ≤ c) (h1 : c ≤ 255) (w : World) :
    Calls Try.prog 33 #[.int .u8 c] w fun e w' => e = .returned (.int .u8 (low c)) ∧ w = w' := by
  by_cases h : 65 ≤ c
  · by_cases h2 : c ≤ 90
    · go_enter Try.func33, Try.ntmps33
      go_wp2
      go_ret
      exact ⟨ret_u8 (by unfold low; rw [if_pos ⟨h, h2⟩]; omega), rfl⟩
    · go_enter Try.func33, Try.ntmps33
      go_wp2
      go_ret
      exact ⟨ret_u8 (by unfold low; rw [if_neg (by omega)]), rfl⟩
  · go_enter Try.func33, Try.ntmps33
    go_wp2
    go_ret
    exact ⟨ret_u8 (by unfold low; rw [if_neg (by omega)]), rfl⟩
theorem lowerOf_any (c : Int) (h0 : 0 ≤ c) (h1 : c ≤ 255) (w : World) :
    Calls Try.prog 21 #[.int .u8 c] w fun e w' => e = .returned (.int .u8 (low c)) ∧ w = w' := by
  by_cases h : 65 ≤ c
  · by_cases h2 : c ≤ 90
    · go_enter Try.func21, Try.ntmps21
      go_wp2
      go_ret
      exact ⟨ret_u8 (by unfold low; rw [if_pos ⟨h, h2⟩]), rfl⟩
    · go_enter Try.func21, Try.ntmps21
      go_wp2
      go_ret
      exact ⟨ret_u8 (by unfold low; rw [if_neg (by omega)]), rfl⟩
  · go_enter Try.func21, Try.ntmps21
    go_wp2
    go_ret
    exact ⟨ret_u8 (by unfold low; rw [if_neg (by omega)]), rfl⟩

theorem labels_few {s : ByteArray} {ls : List (List Int)} (h : Wire s ls) : 2 * ls.length + 1 ≤ s.size := by
  have h1 := wire_len h
  have h2 : ∀ (k : List (List Int)), (∀ l ∈ k, l ≠ []) → 2 * k.length ≤ (encL k).length := by
    intro k
    induction k with
    | nil => simp
    | cons l k ih =>
      intro hk
      have := ih (fun l hl => hk l (by simp [hl]))
      have h3 : 0 < l.length := List.length_pos_iff.2 (hk l (by simp))
      simp [encL, enc1]; omega
  have := h2 ls h.2
  omega

/-- labelOffsets' array: block B holds 127 cells, the first of them the offsets of the labels 'done'. -/
def Offs (w : World) (B : Nat) (done : List (List Int)) : Prop := ∃ C : Array Value, w.heap[B]? = some (.cells C 52) ∧ C.size = 127 ∧ ∀ i, i < done.length → C[i]? = some (.int .u8 ((encL (done.take i)).length : Int))
theorem Offs.at {w : World} {B : Nat} {done : List (List Int)} (h : Offs w B done) {k : Nat} (hk : k < 127) : (∃ x, w.cell? ⟨B, k, none⟩ = some x) ∧ w.frozen? ⟨B, k, none⟩ = false := by
  obtain ⟨C, h1, h2, _⟩ := h
  refine ⟨⟨C[k]'(by omega), ?_⟩, ?_⟩
  · simp only [World.cell?, h1]; simp [show k < C.size by omega]
  · simp [World.frozen?, h1]
theorem Offs.next {w : World} {B : Nat} {done : List (List Int)} {l : List Int} (h : Offs w B done) (hd : done.length < 127) :
    Offs (w.setCell ⟨B, done.length, none⟩ (.int .u8 ((encL done).length : Int))) B (done ++ [l]) := by
  obtain ⟨C, h1, h2, h3⟩ := h
  refine ⟨C.setIfInBounds done.length (.int .u8 ((encL done).length : Int)), ?_, by simp [h2], ?_⟩
  · simp only [World.setCell, Array.getElem?_modify, h1]
    simp
  · intro i hi
    simp at hi
    by_cases e : i = done.length
    · subst e
      simp [show done.length < C.size by omega]
    · rw [Array.getElem?_setIfInBounds_ne (by omega), h3 i (by omega), List.take_append_of_le_length (by omega)]

def R32 (s : ByteArray) (ls : List (List Int)) (w : World) (B : Nat) (v off : Value) (wr : World) : Prop :=
  ∃ done rest, ls = done ++ rest ∧ off = .int .i64 ((encL done).length : Int) ∧ v = .slice (some ⟨B, 0, none⟩) done.length 127 ∧ Offs wr B done ∧ Below B w wr ∧ w.heap.size < wr.heap.size ∧ wr.cell? ⟨w.heap.size, 0, none⟩ = some (.string s)

theorem offs_alloc {w : World} {B : Nat} {done : List (List Int)} {o : Obj} (h : Offs w B done) (hB : B < w.heap.size) : Offs (w.alloc o) B done := by
  obtain ⟨C, h1, h2, h3⟩ := h
  exact ⟨C, by rw [Below.heap_alloc _ _ _ hB]; exact h1, h2, h3⟩
theorem r32_next {s : ByteArray} {done rest : List (List Int)} {l : List Int} {w wr : World} {B : Nat} (hO : Offs wr B done) (hB : B < w.heap.size) (hd : done.length < 127) (hb : Below B w wr) (hsz : w.heap.size < wr.heap.size) (hc : wr.cell? ⟨w.heap.size, 0, none⟩ = some (.string s)) (o : Obj) :
    R32 s (done ++ l :: rest) w B (.slice (some ⟨B, 0, none⟩) (done.length + 1) 127) (.int .i64 ((encL (done ++ [l])).length : Int)) ((wr.setCell ⟨B, done.length, none⟩ (.int .u8 ((encL done).length : Int))).alloc o) := by
  have e1 : (wr.setCell ⟨B, done.length, none⟩ (.int .u8 ((encL done).length : Int))).heap.size = wr.heap.size := World.size_setCell _ _ _
  refine ⟨done ++ [l], rest, by simp, rfl, by simp, offs_alloc (hO.next hd) (by omega), (hb.setCell (Nat.le_refl _) _).alloc (by omega) o, by rw [World.size_alloc]; omega, ?_⟩
  rw [World.cell?_alloc_lt _ _ _ (by rw [e1]; exact hsz), World.cell?_setCell_other _ _ _ _ (fun e => absurd (congrArg Addr.block e) (by show ¬ (_ = _); first | (simp; done) | (simp; omega) | omega))]
  exact hc

set_option maxHeartbeats 2000000 in
set_option maxRecDepth 100000 in
theorem offsets_any (s : ByteArray) (ls : List (List Int)) (B : Nat) (w : World) (hs : s.size ≤ 255) (hw : Wire s ls) (hO : Offs w B []) (hB : B < w.heap.size) :
    Calls Try.prog 32 #[.agg #[.string s], .slice (some ⟨B, 0, none⟩) 0 127] w fun e w' => e = .returned (.slice (some ⟨B, 0, none⟩) ls.length 127) ∧ Offs w' B ls ∧ Below B w w' ∧ w.heap.size ≤ w'.heap.size := by
  have hfew := labels_few hw
  have hcell0 : (w.alloc (.cells #[.string s] 27)).cell? ⟨w.heap.size, 0, none⟩ = some (.string s) := by simp [go_sem]
  go_enter Try.func32, Try.ntmps32
  go_wp2
  go_loopw [1, 5] (fun v off wr => R32 s ls w B v off wr) (fun _ off _ => s.size - (intOf off).toNat)
  case atStart => exact ⟨[], ls, rfl, rfl, rfl, offs_alloc hO hB, (Below.refl _ _).alloc (by omega) _, by simp, hcell0⟩
  case round =>
    obtain ⟨done, rest, rfl, rfl, rfl, hO2, hb2, hsz2, hcell⟩ := hrel
    clear hcell0
    have hlen : done.length + rest.length ≤ 127 := by simp at hfew; omega
    cases rest with
    | nil =>
      obtain ⟨hk, hb⟩ := end_facts (by simpa using hw)
      have hbb : ((s[(encL done).length].toNat : Int) != 0) = false := by rw [hb]; rfl
      clear hb
      go_wp2
      go_ret
      exact ⟨by simp, by simpa using hO2, hb2, by omega⟩
    | cons l rest =>
      obtain ⟨hk, hb, hl0, hfit, hbn, hex, hnext⟩ := label_facts hw
      have hbb : ((s[(encL done).length].toNat : Int) != 0) = true := by rw [bne_iff_ne]; omega
      have hd : done.length < 127 := by simp at hlen; omega
      obtain ⟨⟨x, hx⟩, hfz⟩ := hO2.at hd
      have R := r32_next (s := s) (rest := rest) (l := l) hO2 (by omega) hd hb2 hsz2 hcell
      have HN : Hid ((encL (done ++ [l])).length = (encL done).length + 1 + l.length) := hnext
      have HBN : Hid (s[(encL done).length].toNat = l.length) := hbn
      have HR : Hid (∀ o, R32 s (done ++ l :: rest) w B (.slice (some ⟨B, 0, none⟩) (done.length + 1) 127) (.int .i64 ((encL (done ++ [l])).length : Int)) ((wr.setCell ⟨B, done.length, none⟩ (.int .u8 ((encL done).length : Int))).alloc o)) := R
      have hBr : B < wr.heap.size := by omega
      have hne1 : ¬ B = wr.heap.size := by omega
      have hne2 : ¬ w.heap.size = B := by omega
      clear hb hbn hex hnext hO2 R
      go_wp2
      go_roundw
      case rel =>
        have hR := HR.out (.cells #[.int .u8 ((encL done).length : Int)] 5)
        rw [HN.out, ← HBN.out] at hR
        have e : (((encL done).length + 1 + s[(encL done).length].toNat : Nat) : Int) = ((encL done).length : Int) + (1 + (s[(encL done).length].toNat : Int)) := by omega
        rw [e] at hR
        exact hR
      case measure => simp [intOf]; omega
end Go.Proofs.Qxb6603969a
