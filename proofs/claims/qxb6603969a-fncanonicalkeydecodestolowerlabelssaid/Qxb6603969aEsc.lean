import Derived.Test.Qxb6603969aApp
namespace Go.Proofs.Qxb6603969a
open Go.RowKit

/-! ### The presentation form as plain Lean -/
def special (c : Int) : Bool := decide (c = 46 ∨ c = 92 ∨ c = 34 ∨ c = 40 ∨ c = 41 ∨ c = 59 ∨ c = 64 ∨ c = 36)
def esc (c : Int) : List Int := if special c then [92, c] else if c ≤ 32 ∨ 127 ≤ c then [92, 48 + c / 100, 48 + c / 10 % 10, 48 + c % 10] else [c]
def escL : List Int → List Int
  | [] => []
  | c :: l => esc c ++ escL l
def presL : List (List Int) → List Int
  | [] => []
  | l :: ls => escL l ++ (46 :: presL ls)
def pres (ls : List (List Int)) : List Int := if ls = [] then [46] else presL ls

theorem escL_append (a b : List Int) : escL (a ++ b) = escL a ++ escL b := by
  induction a with
  | nil => rfl
  | cons x a ih => simp [escL, ih]
theorem presL_append (a b : List (List Int)) : presL (a ++ b) = presL a ++ presL b := by
  induction a with
  | nil => rfl
  | cons x a ih => simp [presL, ih]
theorem esc_len (c : Int) : 1 ≤ (esc c).length ∧ (esc c).length ≤ 4 := by
  unfold esc; split
  · simp
  · split <;> simp
theorem escL_len (l : List Int) : l.length ≤ (escL l).length ∧ (escL l).length ≤ 4 * l.length := by
  induction l with
  | nil => simp [escL]
  | cons x l ih => have := esc_len x; simp [escL]; omega
theorem presL_len (ls : List (List Int)) : (presL ls).length ≤ 4 * (encL ls).length := by
  induction ls with
  | nil => simp [presL]
  | cons l ls ih => have := escL_len l; simp [presL, encL, enc1]; omega
theorem presL_ne {ls : List (List Int)} (h : ls ≠ []) : presL ls ≠ [] := by
  cases ls with
  | nil => exact absurd rfl h
  | cons l ls => simp [presL]
theorem pres_ne (ls : List (List Int)) : pres ls ≠ [] := by
  unfold pres; split
  · simp
  · exact presL_ne ‹_›
theorem pres_len (ls : List (List Int)) : (pres ls).length ≤ 4 * (encL ls).length + 1 := by
  unfold pres; split
  · simp
  · have := presL_len ls; omega
theorem wire_len {s : ByteArray} {ls : List (List Int)} (h : Wire s ls) : (encL ls).length + 1 = s.size := by
  have := bytesOf_length s
  rw [h.1] at this
  simpa using this

/-- '[]byte(t)': a new row that holds t's bytes. -/
structure CW (t : ByteArray) (w w' : World) : Prop where
  below : Below w.heap.size w w'
  lt : w.heap.size < w'.heap.size
  cells : ∃ (C : Array Value) (fr : Nat × Nat), w'.heap[w.heap.size]? = some (Obj.cells C 5 fr) ∧ ∀ (j : Nat) (x : Int), (bytesOf t)[j]? = some x → C[j]? = some (Value.int .u8 x)
theorem conv_open (t : ByteArray) : ∃ (gc : World → Nat) (cw : World → World), (∀ w, (convert 9 22 (.string t)).run Try.prog w = .ok (.slice (some ⟨w.heap.size, 0, none⟩) t.size (gc w)) (cw w)) ∧ Hid (∀ w, CW t w (cw w)) := by
  refine ⟨_, _, fun w => run_bytes_of_string (P := Try.prog) w 9 22 5 t Try.underlying9 Try.underlying22 Try.underlying5, fun w => ⟨?_, ?_, ?_⟩⟩
  · exact ((Below.refl _ _).drew).alloc (Nat.le_refl _) _
  · simp
  · refine ⟨_, _, heap_alloc_new w.drew _, fun j x hj => ?_⟩
    have hj' : j < t.data.size := by
      have := (List.getElem?_eq_some_iff.1 hj).1
      rwa [bytesOf_length] at this
    rw [bytesRow_at t _ j hj']
    have := bytesOf_get t j hj'
    rw [this] at hj
    simp only [Option.some.injEq] at hj
    rw [← hj]; rfl
/-- The bytes of a label cut out of the wire. -/
theorem bytesOf_extract {s : ByteArray} {pre l post : List Int} {x : Int} (h : bytesOf s = pre ++ x :: (l ++ post)) : bytesOf (s.extract (pre.length + 1) (pre.length + 1 + l.length)) = l := by
  have e : (s.extract (pre.length + 1) (pre.length + 1 + l.length)).data.toList = (s.data.toList.drop (pre.length + 1)).take l.length := by
    rw [ByteArray.data_extract]
    simp [Array.toList_extract, List.extract]
  unfold bytesOf at h ⊢
  rw [e, List.map_take, List.map_drop, h]
  simp
end Go.Proofs.Qxb6603969a
