import Derived.Test.Qxb6603951aZz
namespace Go.Proofs.Qxb6603951a
open Go.RowKit

theorem arr_same (n0 n1 n2 n3 n4 n5 n6 n7 : Int) (w : World) : (Op.equalIn 10000 29 (.agg #[.int .u8 n0, .int .u8 n1, .int .u8 n2, .int .u8 n3, .int .u8 n4, .int .u8 n5, .int .u8 n6, .int .u8 n7]) (.agg #[.int .u8 n0, .int .u8 n1, .int .u8 n2, .int .u8 n3, .int .u8 n4, .int .u8 n5, .int .u8 n6, .int .u8 n7])).run Try.prog w = .ok true w := by
  have u3 := Try.underlying5
  have a3 := Try.isAgg5
  have z3 := Try.sizeOf5
  rw [show (10000 : Nat) = 9999 + 1 from rfl, Op.equalIn]
  simp only [Sem.run_bind, run_underlying Try.underlying29, Result.andThen_ok]
  simp only [Std.Legacy.Range.forIn_eq_forIn_range', Std.Legacy.Range.size, Nat.sub_zero, Nat.add_sub_cancel, Nat.div_one, List.range'_succ, List.range'_zero, List.forIn_cons, List.forIn_nil]
  go_simp
theorem arr_neq (n0 n1 n2 n3 n4 n5 n6 n7 : Int) (w : World) : (binOp .neq 29 (.agg #[.int .u8 n0, .int .u8 n1, .int .u8 n2, .int .u8 n3, .int .u8 n4, .int .u8 n5, .int .u8 n6, .int .u8 n7]) (.agg #[.int .u8 n0, .int .u8 n1, .int .u8 n2, .int .u8 n3, .int .u8 n4, .int .u8 n5, .int .u8 n6, .int .u8 n7])).run Try.prog w = .ok (.bool false) w := by
  rw [run_neq_struct, arr_same]; rfl
theorem arr_eql (n0 n1 n2 n3 n4 n5 n6 n7 : Int) (w : World) : (binOp .eql 29 (.agg #[.int .u8 n0, .int .u8 n1, .int .u8 n2, .int .u8 n3, .int .u8 n4, .int .u8 n5, .int .u8 n6, .int .u8 n7]) (.agg #[.int .u8 n0, .int .u8 n1, .int .u8 n2, .int .u8 n3, .int .u8 n4, .int .u8 n5, .int .u8 n6, .int .u8 n7])).run Try.prog w = .ok (.bool true) w := by
  rw [run_eql_struct, arr_same]; rfl
end Go.Proofs.Qxb6603951a
