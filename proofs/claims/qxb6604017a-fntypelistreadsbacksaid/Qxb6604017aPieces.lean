import Derived.Test.Qxb6604017aKind
namespace Go.Proofs.Qxb6604017a
open Go.RowKit

/-- Piece k begins at st and holds L bytes. -/
def Inv (o : ByteArray) (ts : List K3) (k st L : Nat) : Prop :=
  ∃ P t, ts[k]? = some t ∧ (str t).data.toList.length = L ∧ o.data.toList = P ++ ((str t).data.toList ++ Lib.joinTail [32, 124, 32] ((ts.drop (k + 1)).map fun t => (str t).data.toList)) ∧ P.length = st

theorem inv_zero {o : ByteArray} {ts : List K3} (ho : o.data.toList = text ts) (h : 0 < ts.length) : ∃ L, Inv o ts 0 0 L := by
  cases ts with
  | nil => simp at h
  | cons t r =>
    refine ⟨_, [], t, rfl, rfl, ?_, rfl⟩
    rw [ho, text, List.map_cons, Lib.join_cons]; simp
theorem inv_size {o : ByteArray} {ts : List K3} {k st L : Nat} (h : Inv o ts k st L) : st + L ≤ o.size := by
  obtain ⟨P, t, ht, hL, ho, hP⟩ := h
  have := congrArg List.length ho
  simp only [List.length_append] at this
  have e : o.data.toList.length = o.size := rfl
  omega
theorem inv_next {o : ByteArray} {ts : List K3} {k st L : Nat} (h : Inv o ts k st L) (hk : k + 1 < ts.length) :
    (∃ L', Inv o ts (k + 1) (st + L + 3) L') ∧ st + L + 3 ≤ o.size ∧ (o.extract (st + L) (st + L + 3)).toList = [32, 124, 32] := by
  obtain ⟨P, t, ht, hL, ho, hP⟩ := h
  obtain ⟨u, hu⟩ : ∃ u, ts[k + 1]? = some u := ⟨_, List.getElem?_eq_getElem hk⟩
  have hd : ts.drop (k + 1) = u :: ts.drop (k + 1 + 1) := by
    rw [List.drop_eq_getElem_cons hk]
    rw [List.getElem?_eq_getElem hk] at hu
    rw [Option.some.inj hu]
  have hj : Lib.joinTail [32, 124, 32] ((ts.drop (k + 1)).map fun t => (str t).data.toList) = [32, 124, 32] ++ ((str u).data.toList ++ Lib.joinTail [32, 124, 32] ((ts.drop (k + 1 + 1)).map fun t => (str t).data.toList)) := by
    rw [hd]; simp [Lib.joinTail]
  rw [hj] at ho
  have e : o.data.toList.length = o.size := rfl
  have hl := congrArg List.length ho
  simp only [List.length_append, List.length_cons, List.length_nil] at hl
  refine ⟨⟨_, P ++ (str t).data.toList ++ [32, 124, 32], u, hu, rfl, by rw [ho]; simp [List.append_assoc], by simp only [List.length_append, List.length_cons, List.length_nil]; omega⟩, by omega, ?_⟩
  rw [ByteArray.toList_eq, ByteArray.data_extract, Array.toList_extract, ho, List.extract, ← List.append_assoc, List.drop_left' (by rw [List.length_append]; omega)]
  rw [show st + L + 3 - (st + L) = 3 by omega]
  rfl
theorem inv_last {o : ByteArray} {ts : List K3} {k st L : Nat} (h : Inv o ts k st L) (hk : k + 1 = ts.length) : o.size = st + L := by
  obtain ⟨P, t, ht, hL, ho, hP⟩ := h
  have e : o.data.toList.length = o.size := rfl
  have hl := congrArg List.length ho
  rw [List.drop_eq_nil_of_le (by omega)] at hl
  simp only [Lib.joinTail, List.map_nil, List.flatten_nil, List.append_nil, List.length_append] at hl
  omega
theorem inv_piece {o : ByteArray} {ts : List K3} {k st L : Nat} {t : K3} (h : Inv o ts k st L) (ht : ts[k]? = some t) : (o.extract st (st + L)).data.toList = t.ty.data.toList ++ suf t := by
  obtain ⟨P, u, hu, hL, ho, hP⟩ := h
  rw [ht] at hu
  obtain rfl : t = u := Option.some.inj hu
  rw [ByteArray.data_extract, Array.toList_extract, ho, List.extract, List.drop_left' hP, show st + L - st = L by omega, List.take_left' hL, str_bytes]
theorem no_space {t : K3} (hc : Clean1 t) : (32 : UInt8) ∉ (str t).data.toList := by
  have key : ∀ s : ByteArray, NoB s 32 → (32 : UInt8) ∉ s.data.toList := fun s h hm => by
    obtain ⟨i, hi, he⟩ := List.mem_iff_getElem.1 hm
    have hi' : i < s.size := hi
    have := h i hi'
    rw [Array.getElem_toList] at he
    have e : s[i] = (32 : UInt8) := he
    rw [e] at this
    exact this rfl
  rw [str_bytes, List.mem_append]
  rintro (h | h)
  · exact key _ hc.2.2.1 h
  · unfold suf at h
    split at h
    · simp at h
    · split at h
      · simp at h
      · next hw _ =>
        rcases List.mem_cons.1 h with h | h
        · cases h
        · exact key _ (hc.2.2.2 (by simpa using hw)) h
theorem inv_within {o : ByteArray} {ts : List K3} {k st L : Nat} {t : K3} (h : Inv o ts k st L) (ht : ts[k]? = some t) (hc : Clean1 t) {j : Nat} (hj : j < L) : (o.extract (st + j) (st + j + 3)).toList ≠ [32, 124, 32] := by
  obtain ⟨P, u, hu, hL, ho, hP⟩ := h
  rw [ht] at hu
  obtain rfl : t = u := Option.some.inj hu
  intro he
  rw [ByteArray.toList_eq, ByteArray.data_extract, Array.toList_extract, List.extract] at he
  have h0 := congrArg (fun l : List UInt8 => l[0]?) he
  simp only [List.getElem?_take, List.getElem?_drop, ho] at h0
  rw [if_pos (by omega), List.getElem?_append_right (by omega), List.getElem?_append_left (by omega)] at h0
  exact no_space hc (List.mem_of_getElem? h0)
end Go.Proofs.Qxb6604017a
