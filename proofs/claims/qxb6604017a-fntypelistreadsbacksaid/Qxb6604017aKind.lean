import Derived.Test.Qxb6604017aNames
import Derived.Test.Qxb6604017aPrint
namespace Go.Proofs.Qxb6604017a
open Go.RowKit

def Not2 (s : ByteArray) (n : Nat) : Prop := ∀ (i : Nat) (h : i < s.size), i < n → (s[i].toNat : Int) ≠ 58 ∧ (s[i].toNat : Int) ≠ 35

set_option maxHeartbeats 2000000 in
set_option maxRecDepth 100000 in
theorem parse_plain (s : ByteArray) (w : World) (hs : s.size ≤ maxLen) (h : Not2 s s.size) : Calls Try.prog 18 #[.string s] w fun e w' => e = .returned (.tuple #[.string s, .bool false, .string ⟨#[]⟩, .bool true]) ∧ Below w.heap.size w w' := by
  unfold maxLen at hs
  have HN : Hid (Not2 s s.size) := h
  clear h
  go_enter Try.func18, Try.ntmps18
  go_wp2
  go_loop [6] (fun i => ∃ k : Nat, k ≤ s.size ∧ i = .int .i64 k) (fun i => s.size - (intOf i).toNat)
  case atStart => exact ⟨0, Nat.zero_le _, rfl⟩
  case round =>
    obtain ⟨k, hk, rfl⟩ := hrel
    by_cases hlt : k < s.size
    · have h1 : ((s[k].toNat : Int) != 58) = true := bne_iff_ne.2 (HN.out k hlt hlt).1
      have h2 : ((s[k].toNat : Int) != 35) = true := bne_iff_ne.2 (HN.out k hlt hlt).2
      go_wp2
      go_round
      case rel => exact ⟨k + 1, by omega, by go_num⟩
      case measure => simp [intOf]; omega
    · obtain rfl : k = s.size := by omega
      go_wp2
      exact bodyPost_ret (v := .tuple #[.string s, .bool false, .string ⟨#[]⟩, .bool true]) (by simp [results, Try.results18, go_sem]) rfl ⟨rfl, Below.refl _ _⟩
set_option maxHeartbeats 2000000 in
set_option maxRecDepth 100000 in
theorem parse_wild (s ty : ByteArray) (n : Nat) (w : World) (hs : s.size ≤ maxLen) (hn : n + 2 ≤ s.size) (h : Not2 s n) (h58 : ∀ h : n < s.size, (s[n].toNat : Int) = 58) (hx : (s.extract n s.size).toList = [58, 42]) (hy : s.extract 0 n = ty) : Calls Try.prog 18 #[.string s] w fun e w' => e = .returned (.tuple #[.string ty, .bool true, .string ⟨#[]⟩, .bool true]) ∧ Below w.heap.size w w' := by
  unfold maxLen at hs
  have HN : Hid (Not2 s n) := h
  have h3 : n < s.size := by omega
  have h58' := h58 h3
  have hxb : ((s.extract n s.size).toList == [58, 42]) = true := beq_iff_eq.2 hx
  clear h h58 hx
  subst hy
  go_enter Try.func18, Try.ntmps18
  go_wp2
  go_loop [6] (fun i => ∃ k : Nat, k ≤ n ∧ i = .int .i64 k) (fun i => s.size - (intOf i).toNat)
  case atStart => exact ⟨0, Nat.zero_le _, rfl⟩
  case round =>
    obtain ⟨k, hk, rfl⟩ := hrel
    by_cases hlt : k < n
    · have hlt' : k < s.size := by omega
      have h1 : ((s[k].toNat : Int) != 58) = true := bne_iff_ne.2 (HN.out k hlt' hlt).1
      have h2 : ((s[k].toNat : Int) != 35) = true := bne_iff_ne.2 (HN.out k hlt' hlt).2
      go_wp2
      go_round
      case rel => exact ⟨k + 1, by omega, by go_num⟩
      case measure => simp [intOf]; omega
    · obtain rfl : k = n := by omega
      have hne : ((k : Int) == (s.size : Int)) = false := beq_eq_false_iff_ne.2 (by omega)
      go_wp2
      exact bodyPost_ret (v := .tuple #[.string (s.extract 0 k), .bool true, .string ⟨#[]⟩, .bool true]) (by simp [results, Try.results18, go_sem]) rfl ⟨rfl, by repeat (first | exact Below.refl _ _ | refine Below.drew ?_)⟩
set_option maxHeartbeats 2000000 in
set_option maxRecDepth 100000 in
theorem parse_rel (s ty rel : ByteArray) (n : Nat) (w : World) (hs : s.size ≤ maxLen) (hn : n + 2 ≤ s.size) (h : Not2 s n) (h35 : ∀ h : n < s.size, (s[n].toNat : Int) = 35) (hx : s.extract (n + 1) s.size = rel) (hy : s.extract 0 n = ty) : Calls Try.prog 18 #[.string s] w fun e w' => e = .returned (.tuple #[.string ty, .bool false, .string rel, .bool true]) ∧ Below w.heap.size w w' := by
  unfold maxLen at hs
  have HN : Hid (Not2 s n) := h
  have h3 : n < s.size := by omega
  have h35' := h35 h3
  clear h h35
  subst hy
  subst hx
  go_enter Try.func18, Try.ntmps18
  go_wp2
  go_loop [6] (fun i => ∃ k : Nat, k ≤ n ∧ i = .int .i64 k) (fun i => s.size - (intOf i).toNat)
  case atStart => exact ⟨0, Nat.zero_le _, rfl⟩
  case round =>
    obtain ⟨k, hk, rfl⟩ := hrel
    by_cases hlt : k < n
    · have hlt' : k < s.size := by omega
      have h1 : ((s[k].toNat : Int) != 58) = true := bne_iff_ne.2 (HN.out k hlt' hlt).1
      have h2 : ((s[k].toNat : Int) != 35) = true := bne_iff_ne.2 (HN.out k hlt' hlt).2
      go_wp2
      go_round
      case rel => exact ⟨k + 1, by omega, by go_num⟩
      case measure => simp [intOf]; omega
    · obtain rfl : k = n := by omega
      have hne : ((k : Int) == (s.size : Int)) = false := beq_eq_false_iff_ne.2 (by omega)
      go_wp2_with fail
      go_quiet (fail)
      go_wp2
      exact bodyPost_ret (v := .tuple #[.string (s.extract 0 k), .bool false, .string (s.extract (k + 1) s.size), .bool true]) (by simp [results, Try.results18, go_sem]) rfl ⟨rfl, by exact below_drewN (Below.refl _ _) _⟩

set_option maxHeartbeats 2000000 in
set_option maxRecDepth 100000 in
theorem kind_of (s : ByteArray) (t : K3) (hp : ∀ w, Calls Try.prog 18 #[.string s] w fun e w' => e = .returned (.tuple #[.string t.ty, .bool t.wild, .string (if t.wild then ⟨#[]⟩ else t.rel), .bool true]) ∧ Below w.heap.size w w') (w : World) :
    Calls Try.prog 9 #[.string s, .agg #[.string t.ty, .bool t.wild, .string t.rel]] w fun e w' => e = .returned (.bool true) ∧ Below w.heap.size w w' := by
  have HP : Hid (∀ w, Calls Try.prog 18 #[.string s] w fun e w' => e = .returned (.tuple #[.string t.ty, .bool t.wild, .string (if t.wild then ⟨#[]⟩ else t.rel), .bool true]) ∧ Below w.heap.size w w') := hp
  clear hp
  have b1 : (t.ty.toList == t.ty.toList) = true := by simp
  have b2 : (t.rel.toList == t.rel.toList) = true := by simp
  cases hw : t.wild
  all_goals
    go_enter Try.func9, Try.ntmps9
    go_wp2_with fail
    refine (HP.out _).mono ?_
    rintro e w2 ⟨rfl, hb2⟩
    have z1 : w2.cell? ⟨w.heap.size, 0, none⟩ = some (.string t.ty) := by rw [hb2.cell (by simp)]; simp [go_sem]
    have z2 : w2.cell? ⟨w.heap.size, 1, none⟩ = some (.bool t.wild) := by rw [hb2.cell (by simp)]; simp [go_sem, hw]
    have z3 : w2.cell? ⟨w.heap.size, 2, none⟩ = some (.string t.rel) := by rw [hb2.cell (by simp)]; simp [go_sem]
    have hb3 : Below w.heap.size w w2 := ((Below.refl _ _).alloc (Nat.le_refl _) _).trans (hb2.mono (by simp))
    clear hb2
    go_wp2
    go_ret
    exact ⟨rfl, hb3⟩

theorem cut_end (a b c : List UInt8) (i j : Nat) (hi : i = a.length + b.length) (hj : j = i + c.length) : (a ++ (b ++ c)).extract i j = c := by
  subst hi hj
  rw [← List.append_assoc, List.extract, ← List.length_append, List.drop_left]
  simp
theorem kind_any (s : ByteArray) (t : K3) (hs : s.size ≤ maxLen) (hb : s.data.toList = t.ty.data.toList ++ suf t) (hc : Clean1 t) (w : World) :
    Calls Try.prog 9 #[.string s, .agg #[.string t.ty, .bool t.wild, .string t.rel]] w fun e w' => e = .returned (.bool true) ∧ Below w.heap.size w w' := by
  have hget : ∀ (i : Nat) (h : i < s.size), s.data.toList[i]? = some s[i] := fun i h => by
    rw [Array.getElem?_toList]; exact Array.getElem?_eq_getElem h
  have hgt : ∀ (i : Nat) (h : i < t.ty.size), t.ty.data.toList[i]? = some t.ty[i] := fun i h => by
    rw [Array.getElem?_toList]; exact Array.getElem?_eq_getElem h
  have hlen : s.size = t.ty.size + (suf t).length := by
    have := congrArg List.length hb
    rw [List.length_append] at this; exact this
  have hlt : t.ty.data.toList.length = t.ty.size := rfl
  have hn2 : Not2 s t.ty.size := fun i h hi => by
    have h1 := hget i h
    rw [hb, List.getElem?_append_left (by omega), hgt i hi] at h1
    have h2 : t.ty[i] = s[i] := Option.some.inj h1
    rw [← h2]
    exact ⟨hc.1 i hi, hc.2.1 i hi⟩
  have hty : s.extract 0 t.ty.size = t.ty := by
    apply ByteArray.ext
    apply Array.toList_inj.1
    rw [ByteArray.data_extract, Array.toList_extract, hb]
    simp [hlt]
  refine kind_of s t (fun w => ?_) w
  cases hw : t.wild
  · cases hr : t.rel.toList.isEmpty
    · have hsuf : suf t = 35 :: t.rel.data.toList := by simp [suf, hw, hr]
      have hrl : t.rel.data.toList.length = t.rel.size := rfl
      have hrs : 1 ≤ t.rel.size := by
        rcases Nat.eq_zero_or_pos t.rel.size with h | h
        · rw [ByteArray.toList_eq] at hr
          rw [List.isEmpty_eq_false_iff] at hr
          exact absurd (List.length_eq_zero_iff.1 (by omega)) hr
        · exact h
      rw [hsuf] at hb hlen
      simp only [List.length_cons] at hlen
      refine parse_rel s t.ty t.rel t.ty.size w hs (by omega) hn2 (fun h => ?_) ?_ hty
      · have h1 := hget _ h
        rw [hb, List.getElem?_append_right (by omega)] at h1
        simp [hlt] at h1
        rw [← h1]; rfl
      · apply ByteArray.ext
        apply Array.toList_inj.1
        rw [ByteArray.data_extract, Array.toList_extract, hb]
        exact cut_end _ [35] _ _ _ (by simp only [List.length_cons, List.length_nil]; omega) (by omega)
    · have hsuf : suf t = [] := by simp [suf, hw, hr]
      have hre : t.rel = ⟨#[]⟩ := by
        apply ByteArray.ext
        apply Array.toList_inj.1
        rw [ByteArray.toList_eq, List.isEmpty_iff] at hr
        rw [hr]
      have hst : s = t.ty := by
        apply ByteArray.ext
        apply Array.toList_inj.1
        rw [hb, hsuf, List.append_nil]
      subst hst
      rw [hre]
      exact parse_plain t.ty w hs hn2
  · have hsuf : suf t = [58, 42] := by simp [suf, hw]
    rw [hsuf] at hb hlen
    simp only [List.length_cons, List.length_nil] at hlen
    refine parse_wild s t.ty t.ty.size w hs (by omega) hn2 (fun h => ?_) ?_ hty
    · have h1 := hget _ h
      rw [hb, List.getElem?_append_right (by omega)] at h1
      simp [hlt] at h1
      rw [← h1]; rfl
    · rw [ByteArray.toList_eq, ByteArray.data_extract, Array.toList_extract, hb]
      exact cut_end _ [] _ _ _ (by simp only [List.length_nil]; omega) (by simp only [List.length_cons, List.length_nil]; omega)
end Go.Proofs.Qxb6604017a
