/- Library addresses compared by ==. No conditions. -/
import Derived.Test.YtmlkcgacneealaaDoorAd2
set_option linter.unusedVariables false
set_option linter.unusedSimpArgs false
namespace Go.Proofs.YtmlkcgacneealaaDoor
open Go.RowKit
theorem eql78_same (hi lo hi' lo' : Int) (a : Addr) (w : World) : (binOp .eql 78 (.agg #[.int .u64 hi, .int .u64 lo, .pointer (some a)]) (.agg #[.int .u64 hi', .int .u64 lo', .pointer (some a)])).run Tryd.prog w = .ok (.bool ((hi == hi') && (lo == lo'))) w := by
  simp only [binOp, Op.equal, Op.maxDepth]
  simp [go_sem]
  all_goals by_cases h1 : hi = hi' <;> by_cases h2 : lo = lo' <;> simp [h1, h2]
theorem eql78_nn (hi lo hi' lo' : Int)  (w : World) : (binOp .eql 78 (.agg #[.int .u64 hi, .int .u64 lo, .pointer none]) (.agg #[.int .u64 hi', .int .u64 lo', .pointer none])).run Tryd.prog w = .ok (.bool ((hi == hi') && (lo == lo'))) w := by
  simp only [binOp, Op.equal, Op.maxDepth]
  simp [go_sem]
  all_goals by_cases h1 : hi = hi' <;> by_cases h2 : lo = lo' <;> simp [h1, h2]
theorem eql78_sn (hi lo hi' lo' : Int) (a : Addr) (w : World) : (binOp .eql 78 (.agg #[.int .u64 hi, .int .u64 lo, .pointer (some a)]) (.agg #[.int .u64 hi', .int .u64 lo', .pointer none])).run Tryd.prog w = .ok (.bool false) w := by
  simp only [binOp, Op.equal, Op.maxDepth]
  simp [go_sem]
  all_goals by_cases h1 : hi = hi' <;> by_cases h2 : lo = lo' <;> simp [h1, h2]
theorem eql78_ns (hi lo hi' lo' : Int) (a : Addr) (w : World) : (binOp .eql 78 (.agg #[.int .u64 hi, .int .u64 lo, .pointer none]) (.agg #[.int .u64 hi', .int .u64 lo', .pointer (some a)])).run Tryd.prog w = .ok (.bool false) w := by
  simp only [binOp, Op.equal, Op.maxDepth]
  simp [go_sem]
  all_goals by_cases h1 : hi = hi' <;> by_cases h2 : lo = lo' <;> simp [h1, h2]
theorem eql78_other (hi lo hi' lo' : Int) (a b : Addr) (w : World) (h : Zh a b w) : (binOp .eql 78 (.agg #[.int .u64 hi, .int .u64 lo, .pointer (some a)]) (.agg #[.int .u64 hi', .int .u64 lo', .pointer (some b)])).run Tryd.prog w = .ok (.bool false) w := by
  simp only [binOp, Op.equal, Op.maxDepth]
  simp [go_sem, eqp_other _ a b w h]
  all_goals by_cases h1 : hi = hi' <;> by_cases h2 : lo = lo' <;> simp [h1, h2, eqp_other _ a b w h]
attribute [go_sem ↓] eql78_same eql78_nn eql78_sn eql78_ns eql78_other
attribute [go_sem 3000] eql78_same eql78_nn eql78_sn eql78_ns eql78_other
end Go.Proofs.YtmlkcgacneealaaDoor
