import Derived.Test.Qxb6603951aArr
namespace Go.Proofs.Qxb6603951a
open Go.RowKit

set_option maxHeartbeats 1000000 in
theorem table_0 (iv nd : Bool) (n0 n1 n2 n3 n4 n5 n6 n7 ln ed : Int) (br : Bool) (c : Int) (h0 : 0 ≤ c) (h1 : c ≤ 255) (w : World) :
    Calls Try.prog 5 #[.bool iv, .bool nd, .agg #[.int .u8 n0, .int .u8 n1, .int .u8 n2, .int .u8 n3, .int .u8 n4, .int .u8 n5, .int .u8 n6, .int .u8 n7], .int .i64 ln, .int .i64 0, .int .u8 ed, .bool br, .int .u8 c] w fun e w' =>
      e = .returned (.bool true) ∧ Below w.heap.size w w' := by
  have ha := arr_neq n0 n1 n2 n3 n4 n5 n6 n7
  have q4 : dEd 0 ed c = ed := by simp [dEd]
  have q5 : dBr 0 br c = br := by simp [dBr]
  by_cases e37 : c = 37
  · subst e37
    have q1 : dOut 0 ed 37 = 0 := by simp [dOut]
    have q2 : dOk 0 37 = false := by simp [dOk]
    have q3 : dEs 0 37 = 1 := by simp [dEs]
    go_enter Try.func5, Try.ntmps5
    go_wp2_with (go_at_call 13; refine (zzdec_any iv nd n0 n1 n2 n3 n4 n5 n6 n7 ln 0 ed br 37 (by omega) (by omega) _).mono ?_; rintro e w' ⟨rfl, c1, c2, c3, rfl⟩)
    go_ret
    exact ⟨rfl, by repeat (first | exact Below.refl _ _ | refine Below.drew ?_ | refine Below.alloc ?_ (by first | (simp; done) | (simp; omega)) _)⟩
  · have q2 : dOk 0 c = true := by simp [dOk, e37]
    have q3 : dEs 0 c = 0 := by simp [dEs, e37]
    by_cases e43 : c = 43
    · subst e43
      have q1 : dOut 0 ed 43 = 32 := by simp [dOut]
      go_enter Try.func5, Try.ntmps5
      go_wp2_with (go_at_call 13; refine (zzdec_any iv nd n0 n1 n2 n3 n4 n5 n6 n7 ln 0 ed br 43 (by omega) (by omega) _).mono ?_; rintro e w' ⟨rfl, c1, c2, c3, rfl⟩)
      go_ret
      exact ⟨rfl, by repeat (first | exact Below.refl _ _ | refine Below.drew ?_ | refine Below.alloc ?_ (by first | (simp; done) | (simp; omega)) _)⟩
    · have q1 : dOut 0 ed c = c := by simp [dOut, e37, e43]
      go_enter Try.func5, Try.ntmps5
      go_wp2_with (go_at_call 13; refine (zzdec_any iv nd n0 n1 n2 n3 n4 n5 n6 n7 ln 0 ed br c (by omega) (by omega) _).mono ?_; rintro e w' ⟨rfl, c1, c2, c3, rfl⟩)
      go_ret
      exact ⟨rfl, by repeat (first | exact Below.refl _ _ | refine Below.drew ?_ | refine Below.alloc ?_ (by first | (simp; done) | (simp; omega)) _)⟩

set_option maxHeartbeats 1000000 in
theorem table_1 (iv nd : Bool) (n0 n1 n2 n3 n4 n5 n6 n7 ln ed : Int) (br : Bool) (c : Int) (h0 : 0 ≤ c) (h1 : c ≤ 255) (w : World) :
    Calls Try.prog 5 #[.bool iv, .bool nd, .agg #[.int .u8 n0, .int .u8 n1, .int .u8 n2, .int .u8 n3, .int .u8 n4, .int .u8 n5, .int .u8 n6, .int .u8 n7], .int .i64 ln, .int .i64 1, .int .u8 ed, .bool br, .int .u8 c] w fun e w' =>
      e = .returned (.bool true) ∧ Below w.heap.size w w' := by
  have ha := arr_neq n0 n1 n2 n3 n4 n5 n6 n7
  have hb := hexv_bd c
  have q1 : dOut 1 ed c = 0 := by simp [dOut]
  have q2 : dOk 1 c = false := by simp [dOk]
  have q3 : dEs 1 c = 2 := by simp [dEs]
  have q4 : dEd 1 ed c = hexv c * 16 := by simp [dEd]
  cases ho : hexok c
  · have q5 : dBr 1 br c = true := by simp [dBr, ho]
    go_enter Try.func5, Try.ntmps5
    go_wp2_with (first | (go_at_call 13; refine (zzdec_any iv nd n0 n1 n2 n3 n4 n5 n6 n7 ln 1 ed br c (by omega) (by omega) _).mono ?_; rintro e w' ⟨rfl, c1, c2, c3, rfl⟩) | (go_at_call 14; refine (hexval_any c h0 h1 _).mono ?_; rintro e w' ⟨rfl, rfl⟩))
    go_ret
    exact ⟨rfl, by repeat (first | exact Below.refl _ _ | refine Below.drew ?_ | refine Below.alloc ?_ (by first | (simp; done) | (simp; omega)) _)⟩
  · have q5 : dBr 1 br c = br := by simp [dBr, ho]
    go_enter Try.func5, Try.ntmps5
    go_wp2_with (first | (go_at_call 13; refine (zzdec_any iv nd n0 n1 n2 n3 n4 n5 n6 n7 ln 1 ed br c (by omega) (by omega) _).mono ?_; rintro e w' ⟨rfl, c1, c2, c3, rfl⟩) | (go_at_call 14; refine (hexval_any c h0 h1 _).mono ?_; rintro e w' ⟨rfl, rfl⟩))
    go_ret
    exact ⟨rfl, by repeat (first | exact Below.refl _ _ | refine Below.drew ?_ | refine Below.alloc ?_ (by first | (simp; done) | (simp; omega)) _)⟩

set_option maxHeartbeats 1000000 in
theorem table_2 (iv nd : Bool) (n0 n1 n2 n3 n4 n5 n6 n7 ln es ed : Int) (e0 : (es == 0) = false) (e1 : (es == 1) = false) (br : Bool) (c : Int) (h0 : 0 ≤ c) (h1 : c ≤ 255) (w : World) :
    Calls Try.prog 5 #[.bool iv, .bool nd, .agg #[.int .u8 n0, .int .u8 n1, .int .u8 n2, .int .u8 n3, .int .u8 n4, .int .u8 n5, .int .u8 n6, .int .u8 n7], .int .i64 ln, .int .i64 es, .int .u8 ed, .bool br, .int .u8 c] w fun e w' =>
      e = .returned (.bool true) ∧ Below w.heap.size w w' := by
  have ha := arr_neq n0 n1 n2 n3 n4 n5 n6 n7
  have hb := hexv_bd c
  have f0 : es ≠ 0 := by simpa using e0
  have f1 : es ≠ 1 := by simpa using e1
  have q1 : dOut es ed c = bits BinOp.or IntKind.u8 ed (hexv c) := by simp [dOut, f0, f1]
  have q2 : dOk es c = true := by simp [dOk, f0, f1]
  have q3 : dEs es c = 0 := by simp [dEs, f0, f1]
  have q4 : dEd es ed c = bits BinOp.or IntKind.u8 ed (hexv c) := by simp [dEd, f0, f1]
  cases ho : hexok c
  · have q5 : dBr es br c = true := by simp [dBr, ho, f0]
    clear f0 f1
    go_enter Try.func5, Try.ntmps5
    go_wp2_with (first | (go_at_call 13; refine (zzdec_any iv nd n0 n1 n2 n3 n4 n5 n6 n7 ln es ed br c (by omega) (by omega) _).mono ?_; rintro e w' ⟨rfl, c1, c2, c3, rfl⟩) | (go_at_call 14; refine (hexval_any c h0 h1 _).mono ?_; rintro e w' ⟨rfl, rfl⟩))
    go_ret
    exact ⟨rfl, by repeat (first | exact Below.refl _ _ | refine Below.drew ?_ | refine Below.alloc ?_ (by first | (simp; done) | (simp; omega)) _)⟩
  · have q5 : dBr es br c = br := by simp [dBr, ho, f0]
    clear f0 f1
    go_enter Try.func5, Try.ntmps5
    go_wp2_with (first | (go_at_call 13; refine (zzdec_any iv nd n0 n1 n2 n3 n4 n5 n6 n7 ln es ed br c (by omega) (by omega) _).mono ?_; rintro e w' ⟨rfl, c1, c2, c3, rfl⟩) | (go_at_call 14; refine (hexval_any c h0 h1 _).mono ?_; rintro e w' ⟨rfl, rfl⟩))
    go_ret
    exact ⟨rfl, by repeat (first | exact Below.refl _ _ | refine Below.drew ?_ | refine Below.alloc ?_ (by first | (simp; done) | (simp; omega)) _)⟩

theorem table_any (iv nd : Bool) (n0 n1 n2 n3 n4 n5 n6 n7 ln es ed : Int) (br : Bool) (c : Int) (h0 : 0 ≤ c) (h1 : c ≤ 255) (w : World) :
    Calls Try.prog 5 #[.bool iv, .bool nd, .agg #[.int .u8 n0, .int .u8 n1, .int .u8 n2, .int .u8 n3, .int .u8 n4, .int .u8 n5, .int .u8 n6, .int .u8 n7], .int .i64 ln, .int .i64 es, .int .u8 ed, .bool br, .int .u8 c] w fun e w' =>
      e = .returned (.bool true) ∧ Below w.heap.size w w' := by
  by_cases e0 : es = 0
  · subst e0; exact table_0 iv nd n0 n1 n2 n3 n4 n5 n6 n7 ln ed br c h0 h1 w
  · by_cases e1 : es = 1
    · subst e1; exact table_1 iv nd n0 n1 n2 n3 n4 n5 n6 n7 ln ed br c h0 h1 w
    · exact table_2 iv nd n0 n1 n2 n3 n4 n5 n6 n7 ln es ed (by simpa using e0) (by simpa using e1) br c h0 h1 w
end Go.Proofs.Qxb6603951a
