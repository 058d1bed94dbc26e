import Derived.Test.YbulkaopwBits
import Derived.Laws.StructEq
import Derived.Laws.Tables
import Derived.Laws.Cover2
namespace Go.Proofs.Ybulkaopw
open Go.ChangeShapes Go.WideShapes Go.ChangeAt Go.RowKit
set_option linter.unusedSimpArgs false
theorem eq48 (a b c d e : Int) (w : World) : (Op.equalIn 10000 48 (.agg #[.int .u64 a, .int .u64 b, .int .u64 c, .int .u64 d, .int .u64 e]) (.agg #[.int .u64 0, .int .u64 0, .int .u64 0, .int .u64 0, .int .u64 0])).run Yba.prog w = .ok (a == 0 && b == 0 && c == 0 && d == 0 && e == 0) w := by
  have u3 := Yba.underlying34
  have a3 := Yba.isAgg34
  have z3 := Yba.sizeOf34
  have u48 : Yba.prog.underlying 48 = some (.array 5 34) := by kernel_rfl
  rw [show (10000 : Nat) = 9999 + 1 from rfl, Op.equalIn]
  simp only [Sem.run_bind, run_underlying u48, Result.andThen_ok]
  simp only [Std.Legacy.Range.forIn_eq_forIn_range', Std.Legacy.Range.size, Nat.sub_zero, Nat.add_sub_cancel, Nat.div_one, List.range'_succ, List.range'_zero, List.forIn_cons, List.forIn_nil]
  go_simp
  by_cases h1 : a = 0 <;> by_cases h2 : b = 0 <;> by_cases h3 : c = 0 <;> by_cases h4 : d = 0 <;> by_cases h5 : e = 0 <;> simp [h1, h2, h3, h4, h5]
end Go.Proofs.Ybulkaopw
