/- '==' on ZZSearch. -/
import Derived.Test.Qxb6616897aFlds
import Derived.Laws.StructEq
set_option linter.unusedSimpArgs false
set_option linter.unusedVariables false
namespace Go.Proofs.Qxb6616897a
open Go.RowKit

set_option maxRecDepth 100000 in
set_option maxHeartbeats 2000000 in
theorem eq48 (s : Sr) (w : World) : (binOp .eql 48 (.agg s.plain) (.agg s.plain)).run Try.prog w = .ok (.bool true) w := by
  unfold Sr.plain
  simp [go_sem]

end Go.Proofs.Qxb6616897a
