import Derived.Test.Qxb6603951aHex
import Derived.Deep.RegionHeld3
namespace Go.Proofs.Qxb6603951a
open Go.RowKit

/-! What one step of the decoder computes. -/
def dOut (es ed c : Int) : Int := if es = 0 then (if c = 37 then 0 else if c = 43 then 32 else c) else if es = 1 then 0 else bits BinOp.or IntKind.u8 ed (hexv c)
def dOk (es c : Int) : Bool := if es = 0 then decide (c ≠ 37) else decide (es ≠ 1)
def dEs (es c : Int) : Int := if es = 0 then (if c = 37 then 1 else 0) else if es = 1 then 2 else 0
def dEd (es ed c : Int) : Int := if es = 0 then ed else if es = 1 then hexv c * 16 else bits BinOp.or IntKind.u8 ed (hexv c)
def dBr (es : Int) (br : Bool) (c : Int) : Bool := if es = 0 then br else br || !hexok c

/-- 'the cells of a formField' -/
def ffCells (iv nd : Bool) (n0 n1 n2 n3 n4 n5 n6 n7 ln es ed : Int) (br : Bool) : Array Value := #[.bool iv, .bool nd, .int .u8 n0, .int .u8 n1, .int .u8 n2, .int .u8 n3, .int .u8 n4, .int .u8 n5, .int .u8 n6, .int .u8 n7, .int .i64 ln, .int .i64 es, .int .u8 ed, .bool br]

set_option maxHeartbeats 1000000 in
theorem decode_any (iv nd : Bool) (n0 n1 n2 n3 n4 n5 n6 n7 ln es ed : Int) (br : Bool) (c : Int) (h0 : 0 ≤ c) (h1 : c ≤ 255) (W : World) (B : Nat) (hB : W.heap.size = B) :
    Calls Try.prog 18 #[.pointer (some ⟨B, 0, none⟩), .int .u8 c] (W.alloc (.cells #[.bool iv, .bool nd, .int .u8 n0, .int .u8 n1, .int .u8 n2, .int .u8 n3, .int .u8 n4, .int .u8 n5, .int .u8 n6, .int .u8 n7, .int .i64 ln, .int .i64 es, .int .u8 ed, .bool br] 46)) fun e w' =>
      e = .returned (.tuple #[.int .u8 (dOut es ed c), .bool (dOk es c)]) ∧ W.alloc (.cells #[.bool iv, .bool nd, .int .u8 n0, .int .u8 n1, .int .u8 n2, .int .u8 n3, .int .u8 n4, .int .u8 n5, .int .u8 n6, .int .u8 n7, .int .i64 ln, .int .i64 (dEs es c), .int .u8 (dEd es ed c), .bool (dBr es br c)] 46) = w' := by
  subst hB
  have hb := hexv_bd c
  by_cases e0 : es = 0
  · subst e0
    by_cases e37 : c = 37
    · subst e37
      rw [show dOut 0 ed 37 = 0 by simp [dOut], show dOk 0 37 = false by simp [dOk], show dEs 0 37 = 1 by simp [dEs], show dEd 0 ed 37 = ed by simp [dEd], show dBr 0 br 37 = br by simp [dBr]]
      go_enter Try.func18, Try.ntmps18
      go_wp2
      go_ret2
      exact ⟨rfl, rfl⟩
    · by_cases e43 : c = 43
      · subst e43
        rw [show dOut 0 ed 43 = 32 by simp [dOut], show dOk 0 43 = true by simp [dOk], show dEs 0 43 = 0 by simp [dEs], show dEd 0 ed 43 = ed by simp [dEd], show dBr 0 br 43 = br by simp [dBr]]
        go_enter Try.func18, Try.ntmps18
        go_wp2
        go_ret2
        exact ⟨rfl, rfl⟩
      · rw [show dOut 0 ed c = c by simp [dOut, e37, e43], show dOk 0 c = true by simp [dOk, e37], show dEs 0 c = 0 by simp [dEs, e37], show dEd 0 ed c = ed by simp [dEd], show dBr 0 br c = br by simp [dBr]]
        go_enter Try.func18, Try.ntmps18
        go_wp2
        go_ret2
        exact ⟨rfl, rfl⟩
  · by_cases e1 : es = 1
    · subst e1
      rw [show dOut 1 ed c = 0 by simp [dOut], show dOk 1 c = false by simp [dOk], show dEs 1 c = 2 by simp [dEs], show dEd 1 ed c = hexv c * 16 by simp [dEd]]
      cases ho : hexok c
      · rw [show dBr 1 br c = true by simp [dBr, ho]]
        go_enter Try.func18, Try.ntmps18
        go_wp2_with (go_at_call 20; refine (unhex_any c h0 h1 _).mono ?_; rintro e w' ⟨rfl, rfl⟩)
        go_ret2
        exact ⟨rfl, rfl⟩
      · rw [show dBr 1 br c = br by simp [dBr, ho]]
        go_enter Try.func18, Try.ntmps18
        go_wp2_with (go_at_call 20; refine (unhex_any c h0 h1 _).mono ?_; rintro e w' ⟨rfl, rfl⟩)
        go_ret2
        exact ⟨rfl, rfl⟩
    · rw [show dOut es ed c = bits BinOp.or IntKind.u8 ed (hexv c) by simp [dOut, e0, e1], show dOk es c = true by simp [dOk, e0, e1], show dEs es c = 0 by simp [dEs, e0, e1], show dEd es ed c = bits BinOp.or IntKind.u8 ed (hexv c) by simp [dEd, e0, e1]]
      cases ho : hexok c
      · rw [show dBr es br c = true by simp [dBr, ho, e0]]
        go_enter Try.func18, Try.ntmps18
        go_wp2_with (go_at_call 20; refine (unhex_any c h0 h1 _).mono ?_; rintro e w' ⟨rfl, rfl⟩)
        go_ret2
        exact ⟨rfl, rfl⟩
      · rw [show dBr es br c = br by simp [dBr, ho, e0]]
        go_enter Try.func18, Try.ntmps18
        go_wp2_with (go_at_call 20; refine (unhex_any c h0 h1 _).mono ?_; rintro e w' ⟨rfl, rfl⟩)
        go_ret2
        exact ⟨rfl, rfl⟩
end Go.Proofs.Qxb6603951a
