import Derived.Test.Qxb6603951aDec
namespace Go.Proofs.Qxb6603951a
open Go.RowKit

set_option maxHeartbeats 1000000 in
theorem zzdec_any (iv nd : Bool) (n0 n1 n2 n3 n4 n5 n6 n7 ln es ed : Int) (br : Bool) (c : Int) (h0 : 0 ≤ c) (h1 : c ≤ 255) (w : World) :
    Calls Try.prog 13 #[.bool iv, .bool nd, .agg #[.int .u8 n0, .int .u8 n1, .int .u8 n2, .int .u8 n3, .int .u8 n4, .int .u8 n5, .int .u8 n6, .int .u8 n7], .int .i64 ln, .int .i64 es, .int .u8 ed, .bool br, .int .u8 c] w fun e w' =>
      e = .returned (.tuple #[.int .u8 (dOut es ed c), .bool (dOk es c), .bool iv, .bool nd, .agg #[.int .u8 n0, .int .u8 n1, .int .u8 n2, .int .u8 n3, .int .u8 n4, .int .u8 n5, .int .u8 n6, .int .u8 n7], .int .i64 ln, .int .i64 (dEs es c), .int .u8 (dEd es ed c), .bool (dBr es br c)]) ∧
      ∃ c1 c2 c3 : Array Value, w' = (((w.alloc (.cells c1 29)).alloc (.cells c2 29)).alloc (.cells c3 46)).drew := by
  have hd := decode_any iv nd n0 n1 n2 n3 n4 n5 n6 n7 ln es ed br c h0 h1
  generalize dOut es ed c = xo at *
  generalize dOk es c = xk at *
  generalize dEs es c = xs at *
  generalize dEd es ed c = xd at *
  generalize dBr es br c = xb at *
  have H : Hid (_) := hd
  clear hd
  go_enter Try.func13, Try.ntmps13
  go_wp2_with (go_at_call 18; refine (H.out _ (w.heap.size + 1 + 1) (by simp)).mono ?_; rintro e w' ⟨rfl, rfl⟩)
  go_region_held3 (fun w' => w'.cell? ⟨w.heap.size + 1 + 1, 0, none⟩ = some (.bool iv) ∧ w'.cell? ⟨w.heap.size + 1 + 1, 1, none⟩ = some (.bool nd) ∧ w'.cell? ⟨w.heap.size + 1 + 1, 2, none⟩ = some (.int .u8 n0) ∧ w'.cell? ⟨w.heap.size + 1 + 1, 3, none⟩ = some (.int .u8 n1) ∧ w'.cell? ⟨w.heap.size + 1 + 1, 4, none⟩ = some (.int .u8 n2) ∧ w'.cell? ⟨w.heap.size + 1 + 1, 5, none⟩ = some (.int .u8 n3) ∧ w'.cell? ⟨w.heap.size + 1 + 1, 6, none⟩ = some (.int .u8 n4) ∧ w'.cell? ⟨w.heap.size + 1 + 1, 7, none⟩ = some (.int .u8 n5) ∧ w'.cell? ⟨w.heap.size + 1 + 1, 8, none⟩ = some (.int .u8 n6) ∧ w'.cell? ⟨w.heap.size + 1 + 1, 9, none⟩ = some (.int .u8 n7) ∧ w'.cell? ⟨w.heap.size + 1 + 1, 10, none⟩ = some (.int .i64 ln) ∧ w'.cell? ⟨w.heap.size + 1 + 1, 11, none⟩ = some (.int .i64 xs) ∧ w'.cell? ⟨w.heap.size + 1 + 1, 12, none⟩ = some (.int .u8 xd) ∧ w'.cell? ⟨w.heap.size + 1 + 1, 13, none⟩ = some (.bool xb)) (simp [go_sem]) (fail)
  go_wp2
  refine bodyPost_ret (v := .tuple #[.int .u8 xo, .bool xk, .bool iv, .bool nd, .agg #[.int .u8 n0, .int .u8 n1, .int .u8 n2, .int .u8 n3, .int .u8 n4, .int .u8 n5, .int .u8 n6, .int .u8 n7], .int .i64 ln, .int .i64 xs, .int .u8 xd, .bool xb]) (by simp [results, Try.results13, go_sem]) rfl ⟨rfl, _, _, _, rfl⟩
end Go.Proofs.Qxb6603951a
