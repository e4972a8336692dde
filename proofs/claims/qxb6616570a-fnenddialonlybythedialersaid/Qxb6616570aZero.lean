/- time.Time's IsZero, the record's last failure, recIs. -/
import Derived.Test.Qxb6616570aWant
import Derived.Test.Qxb6616570aLeaf
import Derived.Test.Qxb6616570aAcc
set_option linter.unusedSimpArgs false
set_option linter.unusedVariables false
namespace Go.Proofs.Qxb6616570a
open Go.RowKit

set_option maxHeartbeats 400000 in
theorem isZero_any (w : World) :
    Calls Try.prog 64 #[.agg #[.int .u64 0, .int .i64 0, .pointer none]] w fun e w' => e = .returned (.bool true) ∧ w' = w.alloc (.cells #[.int .u64 0, .int .i64 0, .pointer none] 43) := by
  go_enter Try.func64, Try.ntmps64
  go_wp2
  go_ret
  exact ⟨rfl, rfl⟩

set_option maxHeartbeats 400000 in
theorem recLastZero_any (r : Nat) (w : World) (h1 : w.cell? ⟨r, 1, none⟩ = some (.int .u64 0)) (h2 : w.cell? ⟨r, 2, none⟩ = some (.int .i64 0)) (h3 : w.cell? ⟨r, 3, none⟩ = some (.pointer none)) :
    Calls Try.prog 50 #[.pointer (some ⟨r, 0, none⟩)] w fun e w' => e = .returned (.bool true) ∧ w' = w.alloc (.cells #[.int .u64 0, .int .i64 0, .pointer none] 43) := by
  go_enter Try.func50, Try.ntmps50
  go_wp2_with (go_at_call 64; refine (isZero_any _).mono ?_; rintro e w' ⟨rfl, rfl⟩)
  go_ret
  exact ⟨rfl, rfl⟩

set_option maxHeartbeats 400000 in
theorem viewLastZero_any (f : Int) (g b : Bool) (w : World) :
    Calls Try.prog 56 #[.agg #[.int .i64 f, .int .u64 0, .int .i64 0, .pointer none, .bool g, .bool b]] w fun e w' => e = .returned (.bool true) ∧ Mod (fun _ => False) w w' := by
  go_enter Try.func56, Try.ntmps56
  go_wp2_with (go_at_call 64; refine (isZero_any _).mono ?_; rintro e w' ⟨rfl, rfl⟩)
  go_ret
  exact ⟨rfl, ((Mod.refl _ _).alloc _).alloc _⟩

set_option maxHeartbeats 1000000 in
theorem recIs_any (X : XLay) (S : St) (b : Bool) (w : World) (hb : b = decide (0 ≤ S.dialer)) :
    Calls Try.prog 20 #[.agg #[.int .i64 S.failures, .int .u64 0, .int .i64 0, .pointer none, .bool S.failing, .bool b], .agg (X.xC S)] w fun e w' => e = .returned (.bool true) ∧ Mod (fun _ => False) w w' := by
  unfold XLay.xC
  have q1 : (S.failures == S.failures) = true := by simp
  have q2 : (S.failing == S.failing) = true := by simp
  have q3 : (b == decide (0 ≤ S.dialer)) = true := by simp [hb]
  clear hb
  go_enter Try.func20, Try.ntmps20
  go_wp2_with (go_at_call 56; refine (viewLastZero_any _ _ _ _).mono ?_; rintro e w' ⟨rfl, hm⟩)
  go_ret
  exact ⟨rfl, (((Mod.refl _ _).alloc _).alloc _).trans hm⟩

end Go.Proofs.Qxb6616570a
