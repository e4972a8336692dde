/-
  No cell of these rows narrows 'for every input' (looked for: loops, veiled, ifaces, maps, wideKeys, modest, calm, conditions, laid).
  DERIVED. THE GIVEN ROWS OF THIS SEAT. 5 by the template 'for every input the law returns true; each argument reads behind the call as it read before'; 0 by the template 'total and deterministic' (their statements: Qxb6616897aTotals.lean).
  GIVEN WITH THE SEED: the statements are not yours to turn. If you find one false, say at which input.
  Laid BY PROGRAM, IN A SANDBOX (cutbox-rows.mjs): the forced cells as the released guide's own fill.sh prints them over the translation e0bc287fd520d8e7… (all of the seat's roots in one cut). By AI agents, Wed Nov 11 2026. No macro, syntax, notation, axiom, sorry.
-/
import Derived.Test.Qxb6616897aChecked
import GoSem.Claim
import GoSem.ClaimJoined
import GoSem.ClaimMapViews
import Derived.JoinedTies
import Derived.KernelRfl
namespace Go.Proofs.Qxb6616897a
/- THE CELL 'sum', in the pinned program and in every row, IS THE sha256 OF THE DUMP (.gsa) THAT Qxb6616897aProg.lean LOADS. Nothing in Lean hashes anything: it is a label: what it is worth is what the hold of that sum in a sandbox is worth. -/
noncomputable def Try.pinned : Pinned := { name := "qxb6616897a", sum := "e0bc287fd520d8e78faae9a5e3d9d2ddba99298fb80c686e46062903d282d53b", checked := Try.checked }
namespace Rows
def none {H : Type} : Left H := { results := [], args := [] }

/-- 'zzlaws_root_b1.FnHazardSplitIntervalsSpec': WHATEVER THE INPUT: true; the input reads as it did. -/
def fnHazardSplitIntervalsSpecSpec : ChangeSpec := { name := "fnHazardSplitIntervalsSpec", fn := fun _ => fun
  | [d1, d2, d3, d4, d5, d6] => { results := [.lit (.bool true)], args := [d1, d2, d3, d4, d5, d6] }
  | _ => none }
def fnHazardSplitIntervalsSpecRow : OpenClaim := { program := "qxb6616897a", sum := "e0bc287fd520d8e78faae9a5e3d9d2ddba99298fb80c686e46062903d282d53b", func := "example.com/pulsekeep/pulsekeep/zzlaws_root_b1.FnHazardSplitIntervalsSpec", spec := "fnHazardSplitIntervalsSpec", inPlace := ["math.Float64bits", "math.Float64frombits"], unfollowed := true, recurses := true, apart := false }
def FnHazardSplitIntervalsSpecSaid : Prop := fnHazardSplitIntervalsSpecRow.holds Try.pinned (OpenSpec.ofChange fnHazardSplitIntervalsSpecSpec)

/-- ITS FALSE NEIGHBOUR: 'it returns false'. Refute it at one input. -/
def fnHazardSplitIntervalsSpecWrong : ChangeSpec := { name := "fnHazardSplitIntervalsSpec", fn := fun _ => fun
  | [d1, d2, d3, d4, d5, d6] => { results := [.lit (.bool false)], args := [d1, d2, d3, d4, d5, d6] }
  | _ => none }
def FnHazardSplitIntervalsSpecWrongFalsely : Prop := fnHazardSplitIntervalsSpecRow.holds Try.pinned (OpenSpec.ofChange fnHazardSplitIntervalsSpecWrong)

/-- 'zzlaws_root_b1.FnHazardSplitIntervalsIgnoreScaleAndReassign': WHATEVER THE INPUT: true; the input reads as it did. -/
def fnHazardSplitIntervalsIgnoreScaleAndReassignSpec : ChangeSpec := { name := "fnHazardSplitIntervalsIgnoreScaleAndReassign", fn := fun _ => fun
  | [d1, d2, d3, d4, d5, d6, d7, d8] => { results := [.lit (.bool true)], args := [d1, d2, d3, d4, d5, d6, d7, d8] }
  | _ => none }
def fnHazardSplitIntervalsIgnoreScaleAndReassignRow : OpenClaim := { program := "qxb6616897a", sum := "e0bc287fd520d8e78faae9a5e3d9d2ddba99298fb80c686e46062903d282d53b", func := "example.com/pulsekeep/pulsekeep/zzlaws_root_b1.FnHazardSplitIntervalsIgnoreScaleAndReassign", spec := "fnHazardSplitIntervalsIgnoreScaleAndReassign", inPlace := ["math.Float64bits", "math.Float64frombits"], unfollowed := true, recurses := true, apart := false }
def FnHazardSplitIntervalsIgnoreScaleAndReassignSaid : Prop := fnHazardSplitIntervalsIgnoreScaleAndReassignRow.holds Try.pinned (OpenSpec.ofChange fnHazardSplitIntervalsIgnoreScaleAndReassignSpec)

/-- ITS FALSE NEIGHBOUR: 'it returns false'. Refute it at one input. -/
def fnHazardSplitIntervalsIgnoreScaleAndReassignWrong : ChangeSpec := { name := "fnHazardSplitIntervalsIgnoreScaleAndReassign", fn := fun _ => fun
  | [d1, d2, d3, d4, d5, d6, d7, d8] => { results := [.lit (.bool false)], args := [d1, d2, d3, d4, d5, d6, d7, d8] }
  | _ => none }
def FnHazardSplitIntervalsIgnoreScaleAndReassignWrongFalsely : Prop := fnHazardSplitIntervalsIgnoreScaleAndReassignRow.holds Try.pinned (OpenSpec.ofChange fnHazardSplitIntervalsIgnoreScaleAndReassignWrong)

/-- 'zzlaws_root_b1.FnFixedAgreesWithConstantHazardSplit': WHATEVER THE INPUT: true; the input reads as it did. -/
def fnFixedAgreesWithConstantHazardSplitSpec : ChangeSpec := { name := "fnFixedAgreesWithConstantHazardSplit", fn := fun _ => fun
  | [d1, d2, d3, d4, d5, d6] => { results := [.lit (.bool true)], args := [d1, d2, d3, d4, d5, d6] }
  | _ => none }
def fnFixedAgreesWithConstantHazardSplitRow : OpenClaim := { program := "qxb6616897a", sum := "e0bc287fd520d8e78faae9a5e3d9d2ddba99298fb80c686e46062903d282d53b", func := "example.com/pulsekeep/pulsekeep/zzlaws_root_b1.FnFixedAgreesWithConstantHazardSplit", spec := "fnFixedAgreesWithConstantHazardSplit", inPlace := ["math.Float64bits", "math.Float64frombits"], unfollowed := true, recurses := true, apart := false }
def FnFixedAgreesWithConstantHazardSplitSaid : Prop := fnFixedAgreesWithConstantHazardSplitRow.holds Try.pinned (OpenSpec.ofChange fnFixedAgreesWithConstantHazardSplitSpec)

/-- ITS FALSE NEIGHBOUR: 'it returns false'. Refute it at one input. -/
def fnFixedAgreesWithConstantHazardSplitWrong : ChangeSpec := { name := "fnFixedAgreesWithConstantHazardSplit", fn := fun _ => fun
  | [d1, d2, d3, d4, d5, d6] => { results := [.lit (.bool false)], args := [d1, d2, d3, d4, d5, d6] }
  | _ => none }
def FnFixedAgreesWithConstantHazardSplitWrongFalsely : Prop := fnFixedAgreesWithConstantHazardSplitRow.holds Try.pinned (OpenSpec.ofChange fnFixedAgreesWithConstantHazardSplitWrong)

/-- 'zzlaws_root_b1.FnSearchArrangeTrialIdempotent': WHATEVER THE INPUT: true; the input reads as it did. -/
def fnSearchArrangeTrialIdempotentSpec : ChangeSpec := { name := "fnSearchArrangeTrialIdempotent", fn := fun _ => fun
  | [d1, d2] => { results := [.lit (.bool true)], args := [d1, d2] }
  | _ => none }
def fnSearchArrangeTrialIdempotentRow : OpenClaim := { program := "qxb6616897a", sum := "e0bc287fd520d8e78faae9a5e3d9d2ddba99298fb80c686e46062903d282d53b", func := "example.com/pulsekeep/pulsekeep/zzlaws_root_b1.FnSearchArrangeTrialIdempotent", spec := "fnSearchArrangeTrialIdempotent", unfollowed := true, recurses := true, apart := false }
def FnSearchArrangeTrialIdempotentSaid : Prop := fnSearchArrangeTrialIdempotentRow.holds Try.pinned (OpenSpec.ofChange fnSearchArrangeTrialIdempotentSpec)

/-- ITS FALSE NEIGHBOUR: 'it returns false'. Refute it at one input. -/
def fnSearchArrangeTrialIdempotentWrong : ChangeSpec := { name := "fnSearchArrangeTrialIdempotent", fn := fun _ => fun
  | [d1, d2] => { results := [.lit (.bool false)], args := [d1, d2] }
  | _ => none }
def FnSearchArrangeTrialIdempotentWrongFalsely : Prop := fnSearchArrangeTrialIdempotentRow.holds Try.pinned (OpenSpec.ofChange fnSearchArrangeTrialIdempotentWrong)

/-- 'zzlaws_root_b1.FnSearchArrangeTrialAgreesWithArrangeAgain': WHATEVER THE INPUT: true; the input reads as it did. -/
def fnSearchArrangeTrialAgreesWithArrangeAgainSpec : ChangeSpec := { name := "fnSearchArrangeTrialAgreesWithArrangeAgain", fn := fun _ => fun
  | [d1, d2] => { results := [.lit (.bool true)], args := [d1, d2] }
  | _ => none }
def fnSearchArrangeTrialAgreesWithArrangeAgainRow : OpenClaim := { program := "qxb6616897a", sum := "e0bc287fd520d8e78faae9a5e3d9d2ddba99298fb80c686e46062903d282d53b", func := "example.com/pulsekeep/pulsekeep/zzlaws_root_b1.FnSearchArrangeTrialAgreesWithArrangeAgain", spec := "fnSearchArrangeTrialAgreesWithArrangeAgain", unfollowed := true, recurses := true, apart := false }
def FnSearchArrangeTrialAgreesWithArrangeAgainSaid : Prop := fnSearchArrangeTrialAgreesWithArrangeAgainRow.holds Try.pinned (OpenSpec.ofChange fnSearchArrangeTrialAgreesWithArrangeAgainSpec)

/-- ITS FALSE NEIGHBOUR: 'it returns false'. Refute it at one input. -/
def fnSearchArrangeTrialAgreesWithArrangeAgainWrong : ChangeSpec := { name := "fnSearchArrangeTrialAgreesWithArrangeAgain", fn := fun _ => fun
  | [d1, d2] => { results := [.lit (.bool false)], args := [d1, d2] }
  | _ => none }
def FnSearchArrangeTrialAgreesWithArrangeAgainWrongFalsely : Prop := fnSearchArrangeTrialAgreesWithArrangeAgainRow.holds Try.pinned (OpenSpec.ofChange fnSearchArrangeTrialAgreesWithArrangeAgainWrong)

end Rows
end Go.Proofs.Qxb6616897a
