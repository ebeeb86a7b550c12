import Derived.Test.Qxb6603969aPlain
namespace Go.Proofs.Qxb6603969a
open Go.RowKit

/-- What validWire says. -/
def VOut (s : ByteArray) (w : World) (e : Ending) (w' : World) : Prop := ∃ b, e = .returned (.bool b) ∧ w = w' ∧ (b = true → s.size ≤ 255 ∧ ∃ ls, Wire s ls)
theorem vout_false (s : ByteArray) (w : World) : VOut s w (.returned (.bool false)) w := ⟨false, rfl, rfl, fun h => by cases h⟩
theorem vout_mk {s : ByteArray} {w : World} {b : Bool} (h : b = true → s.size ≤ 255 ∧ ∃ ls, Wire s ls) : VOut s w (.returned (.bool b)) w := ⟨b, rfl, rfl, h⟩

/-- validWire: it answers; where it says yes the string is a wire form of at most 255 bytes. -/
theorem valid_any (s : ByteArray) (w : World) (hs : s.size ≤ maxLen) :
    Calls Try.prog 9 #[.string s] w fun e w' => VOut s w e w' := by
  unfold maxLen at hs
  by_cases h0 : s.size = 0
  · go_enter Try.func9, Try.ntmps9
    go_wp2
    go_ret
    exact vout_false s w
  · have h0b : ((s.size : Int) == 0) = false := beq_eq_false_iff_ne.2 (by omega)
    by_cases h255 : (255 : Int) < (s.size : Int)
    · go_enter Try.func9, Try.ntmps9
      go_wp2
      go_ret
      exact vout_false s w
    · go_enter Try.func9, Try.ntmps9
      go_wp2
      go_loop [3] (fun i => ∃ k : Nat, i = .int .i64 k ∧ k ≤ 600 ∧ Hid (k ≤ s.size → ∃ ls, (bytesOf s).take k = encL ls ∧ ∀ l ∈ ls, l ≠ [])) (fun i => s.size - (intOf i).toNat)
      case atStart => exact ⟨0, rfl, by omega, fun _ => ⟨[], by simp [encL], by simp⟩⟩
      case round =>
        obtain ⟨k, rfl, hk, HR⟩ := hrel
        by_cases hlt : k < s.size
        · have hb := UInt8.toNat_lt s[k]
          by_cases hz : (s[k].toNat : Int) = 0
          · have HZ : Hid ((s[k].toNat : Int) = 0) := hz
            have hzb : ((s[k].toNat : Int) == 0) = true := beq_iff_eq.2 hz
            clear hz
            go_wp2
            go_ret
            exact vout_mk fun hb' => ⟨by omega, by
              obtain ⟨ls, h1, h2⟩ := HR.out (by omega)
              have : (k : Int) = (s.size : Int) - 1 := by simpa using hb'
              exact ⟨ls, wire_of hlt h1 h2 HZ.out (by omega)⟩⟩
          · have HZ : Hid ((s[k].toNat : Int) ≠ 0) := hz
            have hzb : ((s[k].toNat : Int) == 0) = false := beq_eq_false_iff_ne.2 hz
            clear hz
            go_wp2
            go_round
            case rel => exact ⟨k + 1 + s[k].toNat, by go_num, by omega, fun hle => by
              obtain ⟨ls, h1, h2⟩ := HR.out (by omega)
              exact step_labels hlt h1 h2 HZ.out hle⟩
            case measure => simp [intOf]; omega
        · go_wp2
          go_ret
          exact vout_false s w
end Go.Proofs.Qxb6603969a
