/- S6357B: two moved buckets are equal. -/
import Derived.Test.YbulkeaqaBModel
namespace Go.Proofs.Ybulkeaqa
open Go.RowKit Go.Shelf
set_option linter.unusedSimpArgs false

def mvA : Array Value := #[.int .u8 1, .int .u8 0, .int .u8 0, .int .u8 0, .int .u8 0, .int .u8 0, .int .u8 0, .int .u8 0, .int .u64 0, .int .u64 0, .int .u64 0, .int .u64 0, .int .u64 0, .int .u64 0, .int .u64 0, .int .u64 0, .int .i64 0, .int .i64 0, .int .i64 0, .int .i64 0, .int .i64 0, .int .i64 0, .int .i64 0, .int .i64 0, .pointer none]
theorem neq39 (w : World) : (binOp .neq 39 (.agg mvA) (.agg mvA)).run Yba.prog w = .ok (.bool false) w := by
  kernel_rfl
theorem eql33 (a : Option Addr) (l c : Nat) (w : World) : (binOp .eql 33 (.slice a l c) (.slice none 0 0)).run Yba.prog w = .ok (.bool a.isNone) w := Go.run_eql_slice_nil w 33 39 a l c Yba.underlying33
end Go.Proofs.Ybulkeaqa
