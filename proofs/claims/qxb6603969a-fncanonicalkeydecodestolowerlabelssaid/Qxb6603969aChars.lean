import Derived.Test.Qxb6603969aPres
namespace Go.Proofs.Qxb6603969a
open Go.RowKit
def digit (c : Int) : Bool := decide (48 ≤ c ∧ c ≤ 57)
theorem ret_bool {a b : Bool} (h : a = b) : Ending.returned (.bool a) = .returned (.bool b) := by rw [h]
theorem digit_any (c : Int) (w : World) :
    Calls Try.prog 30 #[.int .u8 c] w fun e w' => e = .returned (.bool (digit c)) ∧ w = w' := by
  by_cases h : 48 ≤ c
  · by_cases h2 : c ≤ 57
    · go_enter Try.func30, Try.ntmps30
      go_wp2
      go_ret
      exact ⟨ret_bool (by simp [digit, h, h2]), rfl⟩
    · go_enter Try.func30, Try.ntmps30
      go_wp2
      go_ret
      exact ⟨ret_bool (by simp [digit]; omega), rfl⟩
  · go_enter Try.func30, Try.ntmps30
    go_wp2
    go_ret
    exact ⟨ret_bool (by simp [digit]; omega), rfl⟩
theorem special_any (c : Int) (w : World) :
    Calls Try.prog 31 #[.int .u8 c] w fun e w' => e = .returned (.bool (special c)) ∧ w = w' := by
  cases hsp : special c
  · obtain ⟨n1, n2, n3, n4, n5, n6, n7, n8⟩ := not_special hsp
    clear hsp
    go_enter Try.func31, Try.ntmps31
    go_wp2
    go_ret
    exact ⟨rfl, rfl⟩
  · rcases special_ways hsp with q1 | ⟨q1, q2⟩ | ⟨q1, q2, q3⟩ | ⟨q1, q2, q3, q4⟩ | ⟨q1, q2, q3, q4, q5⟩ | ⟨q1, q2, q3, q4, q5, q6⟩ | ⟨q1, q2, q3, q4, q5, q6, q7⟩ | ⟨q1, q2, q3, q4, q5, q6, q7, q8⟩
    all_goals
      clear hsp
      go_enter Try.func31, Try.ntmps31
      go_wp2
      go_ret
      exact ⟨rfl, rfl⟩
end Go.Proofs.Qxb6603969a
