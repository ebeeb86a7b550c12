import Derived.Test.Qxb6603969aProg
import Derived.WalkKit
import Derived.WalkSpells
import Derived.WalkSmall
namespace Go.Proofs.Qxb6603969a
open Go.RowKit

/-! ### Plain lists: a wire form, its labels. -/
def bytesOf (s : ByteArray) : List Int := s.data.toList.map (fun c => (c.toNat : Int))
def enc1 (l : List Int) : List Int := (l.length : Int) :: l
def encL : List (List Int) → List Int
  | [] => []
  | l :: ls => enc1 l ++ encL ls
def Wire (s : ByteArray) (ls : List (List Int)) : Prop := bytesOf s = encL ls ++ [0] ∧ ∀ l ∈ ls, l ≠ []

theorem encL_append (a b : List (List Int)) : encL (a ++ b) = encL a ++ encL b := by
  induction a with
  | nil => rfl
  | cons x a ih => simp [encL, ih]
theorem bytesOf_length (s : ByteArray) : (bytesOf s).length = s.size := by unfold bytesOf; rw [List.length_map]; rfl
theorem bytesOf_get (s : ByteArray) (k : Nat) (h : k < s.size) : (bytesOf s)[k]? = some (s[k].toNat : Int) := by
  have h' : k < s.data.toList.length := h
  unfold bytesOf
  rw [List.getElem?_map, List.getElem?_eq_getElem h']
  rfl
theorem bytesOf_bd (s : ByteArray) : ∀ x ∈ bytesOf s, 0 ≤ x ∧ x ≤ 255 := by
  intro x hx
  simp only [bytesOf, List.mem_map] at hx
  obtain ⟨c, _, rfl⟩ := hx
  have := UInt8.toNat_lt c
  omega
/-- Where the wire's bytes read 'pre ++ x :: post', the byte at pre's end is x. -/
theorem byte_at {s : ByteArray} {pre post : List Int} {x : Int} (h : bytesOf s = pre ++ x :: post) : ∃ hp : pre.length < s.size, (s[pre.length].toNat : Int) = x := by
  have hl := bytesOf_length s
  rw [h] at hl
  simp at hl
  have hp : pre.length < s.size := by omega
  refine ⟨hp, ?_⟩
  have := bytesOf_get s pre.length hp
  rw [h] at this
  simpa using this.symm
/-- A label is cut out of the wire: the bytes behind its length byte. -/
theorem take_label {s : ByteArray} {k n : Nat} (h : k + 1 + n ≤ s.size) : ∃ l : List Int, l.length = n ∧ (bytesOf s).take (k + 1 + n) = (bytesOf s).take (k + 1) ++ l := by
  refine ⟨((bytesOf s).drop (k + 1)).take n, ?_, ?_⟩
  · have := bytesOf_length s
    simp; omega
  · rw [List.take_add]
theorem take_byte {s : ByteArray} {k : Nat} (h : k < s.size) : (bytesOf s).take (k + 1) = (bytesOf s).take k ++ [(s[k].toNat : Int)] := by
  rw [List.take_add_one, bytesOf_get s k h]; rfl
theorem step_labels {s : ByteArray} {k : Nat} {ls : List (List Int)} (hk : k < s.size) (hw : (bytesOf s).take k = encL ls) (hn : ∀ l ∈ ls, l ≠ []) (h0 : (s[k].toNat : Int) ≠ 0) (hf : k + 1 + s[k].toNat ≤ s.size) :
    ∃ ls', (bytesOf s).take (k + 1 + s[k].toNat) = encL ls' ∧ ∀ l ∈ ls', l ≠ [] := by
  obtain ⟨l, hl, ht⟩ := take_label hf
  refine ⟨ls ++ [l], ?_, ?_⟩
  · rw [ht, take_byte hk, hw, encL_append]
    simp [encL, enc1, hl]
  · intro x hx
    rcases List.mem_append.1 hx with h | h
    · exact hn x h
    · simp at h; subst h; intro e; rw [e] at hl; simp at hl; omega
theorem wire_of {s : ByteArray} {k : Nat} {ls : List (List Int)} (hk : k < s.size) (hw : (bytesOf s).take k = encL ls) (hn : ∀ l ∈ ls, l ≠ []) (h0 : (s[k].toNat : Int) = 0) (hl : k + 1 = s.size) : Wire s ls := by
  refine ⟨?_, hn⟩
  have h1 : (bytesOf s).take (k + 1) = bytesOf s := List.take_of_length_le (by rw [bytesOf_length]; omega)
  rw [← h1, take_byte hk, hw, h0]
end Go.Proofs.Qxb6603969a
