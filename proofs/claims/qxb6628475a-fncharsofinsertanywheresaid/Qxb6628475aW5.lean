import Derived.Test.Qxb6628475aW4
namespace Go.Proofs.Qxb6628475a
open Go.RowKit

/-- '==' on two sets. -/
theorem eq26 (a b c d : Int) (w : World) : (Op.equalIn 10000 26 (.agg #[.int .u64 a, .int .u64 b]) (.agg #[.int .u64 c, .int .u64 d])).run Try.prog w = .ok (a == c && b == d) w := by
  have u3 := Try.underlying24
  have a3 := Try.isAgg24
  have z3 := Try.sizeOf24
  rw [show (10000 : Nat) = 9999 + 1 from rfl, Op.equalIn]
  simp only [Sem.run_bind, run_underlying Try.underlying26, Result.andThen_ok]
  simp only [Std.Legacy.Range.forIn_eq_forIn_range', Std.Legacy.Range.size, Nat.sub_zero, Nat.add_sub_cancel, Nat.div_one, List.range'_succ, List.range'_zero, List.forIn_cons, List.forIn_nil]
  go_simp
  by_cases h1 : a = c <;> by_cases h2 : b = d <;> simp [h1, h2]
end Go.Proofs.Qxb6628475a
