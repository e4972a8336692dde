/- later, heldUp: the contracts. -/
import Derived.Test.Qxb6616897aRows
import Derived.WalkKit
import Derived.WalkSpells
import Derived.WalkLawsBesides
set_option linter.unusedSimpArgs false
set_option linter.unusedVariables false
namespace Go.Proofs.Qxb6616897a
open Go.RowKit

set_option maxHeartbeats 400000 in
theorem later_cap (t d : Int) (w : World) (h0 : 0 ≤ t) (h1 : t ≤ 9223372036854775807) (h : 9223372036854775807 - t < d) (hd : d ≤ 9223372036854775807) :
    Calls Try.prog 38 #[.int .i64 t, .int .i64 d] w fun e w' => e = .returned (.int .i64 9223372036854775807) ∧ w' = w := by
  go_enter Try.func38, Try.ntmps38
  go_wp2
  go_ret
  exact ⟨rfl, rfl⟩

set_option maxHeartbeats 400000 in
theorem later_sum (t d : Int) (w : World) (h0 : 0 ≤ t) (hd : 0 ≤ d) (h : t + d ≤ 9223372036854775807) :
    Calls Try.prog 38 #[.int .i64 t, .int .i64 d] w fun e w' => e = .returned (.int .i64 (t + d)) ∧ w' = w := by
  go_enter Try.func38, Try.ntmps38
  go_wp2
  go_ret
  exact ⟨rfl, rfl⟩
end Go.Proofs.Qxb6616897a
