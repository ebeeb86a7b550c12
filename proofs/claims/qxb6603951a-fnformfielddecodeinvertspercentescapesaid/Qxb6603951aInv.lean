import Derived.Test.Qxb6603951aArr
namespace Go.Proofs.Qxb6603951a
open Go.RowKit
def hexd (v : Int) (lower : Bool) : Int := if v < 10 then 48 + v else if lower then 97 + v - 10 else 65 + v - 10
theorem ret_int {k : IntKind} {a b : Int} (h : a = b) : Ending.returned (.int k a) = .returned (.int k b) := by rw [h]
theorem hexdig_any (v : Int) (lower : Bool) (h0 : 0 ≤ v) (h1 : v ≤ 15) (w : World) :
    Calls Try.prog 15 #[.int .u8 v, .bool lower] w fun e w' => e = .returned (.int .u8 (hexd v lower)) ∧ w' = w := by
  unfold hexd
  by_cases hv : v < 10
  · rw [if_pos hv]
    go_enter Try.func15, Try.ntmps15
    go_wp2
    go_ret
    exact ⟨rfl, rfl⟩
  · rw [if_neg hv]
    cases lower
    · go_enter Try.func15, Try.ntmps15
      go_wp2
      go_ret
      exact ⟨ret_int (by simp), rfl⟩
    · go_enter Try.func15, Try.ntmps15
      go_wp2
      go_ret
      exact ⟨ret_int (by simp), rfl⟩
theorem hexd_bd (v : Int) (l : Bool) (h0 : 0 ≤ v) (h1 : v ≤ 15) : 0 ≤ hexd v l ∧ hexd v l ≤ 255 := by
  unfold hexd; cases l <;> simp <;> split <;> omega
theorem hexv_hexd (v : Int) (l : Bool) (h0 : 0 ≤ v) (h1 : v ≤ 15) : hexv (hexd v l) = v := by
  unfold hexv hexd; cases l <;> simp only [Bool.false_eq_true, if_false, if_true] <;> repeat (split <;> try omega)
theorem hexok_hexd (v : Int) (l : Bool) (h0 : 0 ≤ v) (h1 : v ≤ 15) : hexok (hexd v l) = true := by
  unfold hexok hexd; cases l <;> simp only [Bool.false_eq_true, if_false, if_true, decide_eq_true_eq] <;> split <;> omega
theorem or_split (b : Int) (h0 : 0 ≤ b) (h1 : b ≤ 255) : bits BinOp.or IntKind.u8 (b / 16 * 16) (b % 16) = b := by
  obtain ⟨n, rfl⟩ := Int.eq_ofNat_of_zero_le h0
  have : ∀ n : Fin 256, bits BinOp.or IntKind.u8 (((n : Nat) : Int) / 16 * 16) (((n : Nat) : Int) % 16) = ((n : Nat) : Int) := by decide +kernel
  exact this ⟨n, by omega⟩
theorem and_15 (b : Int) (h0 : 0 ≤ b) (h1 : b ≤ 255) : bits BinOp.and IntKind.u8 b 15 = b % 16 := by
  obtain ⟨n, rfl⟩ := Int.eq_ofNat_of_zero_le h0
  have : ∀ n : Fin 256, bits BinOp.and IntKind.u8 ((n : Nat) : Int) 15 = (((n : Nat) : Int) % 16) := by decide +kernel
  exact this ⟨n, by omega⟩

theorem zz1 (iv nd : Bool) (n0 n1 n2 n3 n4 n5 n6 n7 ln ed : Int) (br : Bool) (w : World) :
    Calls Try.prog 13 #[.bool iv, .bool nd, .agg #[.int .u8 n0, .int .u8 n1, .int .u8 n2, .int .u8 n3, .int .u8 n4, .int .u8 n5, .int .u8 n6, .int .u8 n7], .int .i64 ln, .int .i64 0, .int .u8 ed, .bool br, .int .u8 37] w fun e w' =>
      e = .returned (.tuple #[.int .u8 0, .bool false, .bool iv, .bool nd, .agg #[.int .u8 n0, .int .u8 n1, .int .u8 n2, .int .u8 n3, .int .u8 n4, .int .u8 n5, .int .u8 n6, .int .u8 n7], .int .i64 ln, .int .i64 1, .int .u8 ed, .bool br]) ∧
      ∃ c1 c2 c3 : Array Value, w' = (((w.alloc (.cells c1 29)).alloc (.cells c2 29)).alloc (.cells c3 46)).drew := by
  have h := zzdec_any iv nd n0 n1 n2 n3 n4 n5 n6 n7 ln 0 ed br 37 (by omega) (by omega) w
  simpa only [show dOut 0 ed 37 = 0 by simp [dOut], show dOk 0 37 = false by simp [dOk], show dEs 0 37 = 1 by simp [dEs], show dEd 0 ed 37 = ed by simp [dEd], show dBr 0 br 37 = br by simp [dBr]] using h
theorem zz2 (iv nd : Bool) (n0 n1 n2 n3 n4 n5 n6 n7 ln ed : Int) (br : Bool) (v : Int) (l : Bool) (h0 : 0 ≤ v) (h1 : v ≤ 15) (w : World) :
    Calls Try.prog 13 #[.bool iv, .bool nd, .agg #[.int .u8 n0, .int .u8 n1, .int .u8 n2, .int .u8 n3, .int .u8 n4, .int .u8 n5, .int .u8 n6, .int .u8 n7], .int .i64 ln, .int .i64 1, .int .u8 ed, .bool br, .int .u8 (hexd v l)] w fun e w' =>
      e = .returned (.tuple #[.int .u8 0, .bool false, .bool iv, .bool nd, .agg #[.int .u8 n0, .int .u8 n1, .int .u8 n2, .int .u8 n3, .int .u8 n4, .int .u8 n5, .int .u8 n6, .int .u8 n7], .int .i64 ln, .int .i64 2, .int .u8 (v * 16), .bool br]) ∧
      ∃ c1 c2 c3 : Array Value, w' = (((w.alloc (.cells c1 29)).alloc (.cells c2 29)).alloc (.cells c3 46)).drew := by
  have hb := hexd_bd v l h0 h1
  have h := zzdec_any iv nd n0 n1 n2 n3 n4 n5 n6 n7 ln 1 ed br (hexd v l) hb.1 hb.2 w
  simpa only [show dOut 1 ed (hexd v l) = 0 by simp [dOut], show dOk 1 (hexd v l) = false by simp [dOk], show dEs 1 (hexd v l) = 2 by simp [dEs], show dEd 1 ed (hexd v l) = v * 16 by simp [dEd, hexv_hexd v l h0 h1], show dBr 1 br (hexd v l) = br by simp [dBr, hexok_hexd v l h0 h1]] using h
theorem zz3 (iv nd : Bool) (n0 n1 n2 n3 n4 n5 n6 n7 ln b : Int) (br : Bool) (l : Bool) (h0 : 0 ≤ b) (h1 : b ≤ 255) (w : World) :
    Calls Try.prog 13 #[.bool iv, .bool nd, .agg #[.int .u8 n0, .int .u8 n1, .int .u8 n2, .int .u8 n3, .int .u8 n4, .int .u8 n5, .int .u8 n6, .int .u8 n7], .int .i64 ln, .int .i64 2, .int .u8 (b / 16 * 16), .bool br, .int .u8 (hexd (b % 16) l)] w fun e w' =>
      e = .returned (.tuple #[.int .u8 b, .bool true, .bool iv, .bool nd, .agg #[.int .u8 n0, .int .u8 n1, .int .u8 n2, .int .u8 n3, .int .u8 n4, .int .u8 n5, .int .u8 n6, .int .u8 n7], .int .i64 ln, .int .i64 0, .int .u8 b, .bool br]) ∧
      ∃ c1 c2 c3 : Array Value, w' = (((w.alloc (.cells c1 29)).alloc (.cells c2 29)).alloc (.cells c3 46)).drew := by
  have m0 : 0 ≤ b % 16 := by omega
  have m1 : b % 16 ≤ 15 := by omega
  have hb := hexd_bd (b % 16) l m0 m1
  have h := zzdec_any iv nd n0 n1 n2 n3 n4 n5 n6 n7 ln 2 (b / 16 * 16) br (hexd (b % 16) l) hb.1 hb.2 w
  simpa only [show dOut 2 (b / 16 * 16) (hexd (b % 16) l) = b by simp [dOut, hexv_hexd _ l m0 m1, or_split b h0 h1], show dOk 2 (hexd (b % 16) l) = true by simp [dOk], show dEs 2 (hexd (b % 16) l) = 0 by simp [dEs], show dEd 2 (b / 16 * 16) (hexd (b % 16) l) = b by simp [dEd, hexv_hexd _ l m0 m1, or_split b h0 h1], show dBr 2 br (hexd (b % 16) l) = br by simp [dBr, hexok_hexd _ l m0 m1]] using h

set_option maxHeartbeats 1000000 in
set_option maxRecDepth 100000 in
theorem inv_any (iv nd : Bool) (n0 n1 n2 n3 n4 n5 n6 n7 ln ed : Int) (br : Bool) (b : Int) (lower : Bool) (h0 : 0 ≤ b) (h1 : b ≤ 255) (w : World) :
    Calls Try.prog 6 #[.bool iv, .bool nd, .agg #[.int .u8 n0, .int .u8 n1, .int .u8 n2, .int .u8 n3, .int .u8 n4, .int .u8 n5, .int .u8 n6, .int .u8 n7], .int .i64 ln, .int .u8 ed, .bool br, .int .u8 b, .bool lower] w fun e w' =>
      e = .returned (.bool true) ∧ Below w.heap.size w w' := by
  have ha := arr_eql n0 n1 n2 n3 n4 n5 n6 n7
  have hand := and_15 b h0 h1
  go_enter Try.func6, Try.ntmps6
  go_wp2_with fail
  refine (hexdig_any (b / 16) lower (by omega) (by omega) _).mono ?_
  rintro e w1 ⟨rfl, rfl⟩
  go_wp2_with fail
  refine (hexdig_any (b % 16) lower (by omega) (by omega) _).mono ?_
  rintro e w1 ⟨rfl, rfl⟩
  go_wp2_with fail
  refine (zz1 iv nd n0 n1 n2 n3 n4 n5 n6 n7 ln ed br _).mono ?_
  rintro e w1 ⟨rfl, c1, c2, c3, rfl⟩
  go_wp2_with fail
  refine (zz2 iv nd n0 n1 n2 n3 n4 n5 n6 n7 ln ed br (b / 16) lower (by omega) (by omega) _).mono ?_
  rintro e w1 ⟨rfl, c4, c5, c6, rfl⟩
  go_wp2_with fail
  refine (zz3 iv nd n0 n1 n2 n3 n4 n5 n6 n7 ln b br lower h0 h1 _).mono ?_
  rintro e w1 ⟨rfl, c7, c8, c9, rfl⟩
  go_wp2
  go_ret
  exact ⟨rfl, by repeat (first | exact Below.refl _ _ | refine Below.drew ?_ | refine Below.alloc ?_ (by first | (simp; done) | (simp; omega)) _)⟩
end Go.Proofs.Qxb6603951a
