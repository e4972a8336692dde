/-
  No cell of these rows narrows 'for every input' (looked for: loops, veiled, ifaces, maps, wideKeys, modest, calm, conditions, laid).
  DERIVED. THE GIVEN ROWS OF THIS SEAT. 7 by the template 'for every input the law returns true; each argument reads behind the call as it read before'; 0 by the template 'total and deterministic' (their statements: Qxb6616570aTotals.lean).
  GIVEN WITH THE SEED: the statements are not yours to turn. If you find one false, say at which input.
  Laid BY PROGRAM, IN A SANDBOX (cutbox-rows.mjs): the forced cells as the released guide's own fill.sh prints them over the translation b6909abc906a57cd… (all of the seat's roots in one cut). By AI agents, Wed Nov 11 2026. No macro, syntax, notation, axiom, sorry.
-/
import Derived.Test.Qxb6616570aChecked
import GoSem.Claim
import GoSem.ClaimJoined
import GoSem.ClaimMapViews
import Derived.JoinedTies
import Derived.KernelRfl
namespace Go.Proofs.Qxb6616570a
/- THE CELL 'sum', in the pinned program and in every row, IS THE sha256 OF THE DUMP (.gsa) THAT Qxb6616570aProg.lean LOADS. Nothing in Lean hashes anything: it is a label: what it is worth is what the hold of that sum in a sandbox is worth. -/
noncomputable def Try.pinned : Pinned := { name := "qxb6616570a", sum := "b6909abc906a57cd89a029c8ec954161a0168281669e0d0af67f825fefa9dbe7", checked := Try.checked }
namespace Rows
def none {H : Type} : Left H := { results := [], args := [] }

/-- 'zzlaws_dialhistory_b1.FnForgetUnlessDialingTwice': WHATEVER THE INPUT: true; the input reads as it did. -/
def fnForgetUnlessDialingTwiceSpec : ChangeSpec := { name := "fnForgetUnlessDialingTwice", fn := fun _ => fun
  | [d1, d2, d3, d4, d5, d6, d7] => { results := [.lit (.bool true)], args := [d1, d2, d3, d4, d5, d6, d7] }
  | _ => none }
def fnForgetUnlessDialingTwiceRow : OpenClaim := { program := "qxb6616570a", sum := "b6909abc906a57cd89a029c8ec954161a0168281669e0d0af67f825fefa9dbe7", func := "example.com/quotawire/quotawire/zzlaws_dialhistory_b1.FnForgetUnlessDialingTwice", spec := "fnForgetUnlessDialingTwice", inPlace := ["sync/atomic.StoreUint32", "(*internal/sync.Mutex).Lock", "internal/race.Disable", "sync/atomic.CompareAndSwapInt32", "internal/race.Enable", "internal/race.Acquire", "(*internal/sync.Mutex).lockSlow", "internal/sync.runtime_canSpin", "internal/sync.runtime_doSpin", "internal/sync.throw", "internal/sync.runtime_nanotime", "internal/sync.runtime_SemacquireMutex", "sync/atomic.AddInt32", "(*internal/sync.Mutex).Unlock", "internal/race.ReleaseMerge", "(*internal/sync.Mutex).unlockSlow", "internal/sync.fatal", "internal/sync.runtime_Semrelease", "sync/atomic.LoadUint32"], apart := false }
def FnForgetUnlessDialingTwiceSaid : Prop := fnForgetUnlessDialingTwiceRow.holds Try.pinned (OpenSpec.ofChange fnForgetUnlessDialingTwiceSpec)

/-- ITS FALSE NEIGHBOUR: 'it returns false'. Refute it at one input. -/
def fnForgetUnlessDialingTwiceWrong : ChangeSpec := { name := "fnForgetUnlessDialingTwice", fn := fun _ => fun
  | [d1, d2, d3, d4, d5, d6, d7] => { results := [.lit (.bool false)], args := [d1, d2, d3, d4, d5, d6, d7] }
  | _ => none }
def FnForgetUnlessDialingTwiceWrongFalsely : Prop := fnForgetUnlessDialingTwiceRow.holds Try.pinned (OpenSpec.ofChange fnForgetUnlessDialingTwiceWrong)

/-- 'zzlaws_dialhistory_b1.FnForgetUnlessDialingWaitsForEndDial': WHATEVER THE INPUT: true; the input reads as it did. -/
def fnForgetUnlessDialingWaitsForEndDialSpec : ChangeSpec := { name := "fnForgetUnlessDialingWaitsForEndDial", fn := fun _ => fun
  | [d1, d2, d3, d4, d5, d6, d7] => { results := [.lit (.bool true)], args := [d1, d2, d3, d4, d5, d6, d7] }
  | _ => none }
def fnForgetUnlessDialingWaitsForEndDialRow : OpenClaim := { program := "qxb6616570a", sum := "b6909abc906a57cd89a029c8ec954161a0168281669e0d0af67f825fefa9dbe7", func := "example.com/quotawire/quotawire/zzlaws_dialhistory_b1.FnForgetUnlessDialingWaitsForEndDial", spec := "fnForgetUnlessDialingWaitsForEndDial", inPlace := ["sync/atomic.StoreUint32", "(*internal/sync.Mutex).Lock", "internal/race.Disable", "sync/atomic.CompareAndSwapInt32", "internal/race.Enable", "internal/race.Acquire", "(*internal/sync.Mutex).lockSlow", "internal/sync.runtime_canSpin", "internal/sync.runtime_doSpin", "internal/sync.throw", "internal/sync.runtime_nanotime", "internal/sync.runtime_SemacquireMutex", "sync/atomic.AddInt32", "(*internal/sync.Mutex).Unlock", "internal/race.ReleaseMerge", "(*internal/sync.Mutex).unlockSlow", "internal/sync.fatal", "internal/sync.runtime_Semrelease", "sync/atomic.LoadUint32"], unfollowed := true, recurses := true, apart := false }
def FnForgetUnlessDialingWaitsForEndDialSaid : Prop := fnForgetUnlessDialingWaitsForEndDialRow.holds Try.pinned (OpenSpec.ofChange fnForgetUnlessDialingWaitsForEndDialSpec)

/-- ITS FALSE NEIGHBOUR: 'it returns false'. Refute it at one input. -/
def fnForgetUnlessDialingWaitsForEndDialWrong : ChangeSpec := { name := "fnForgetUnlessDialingWaitsForEndDial", fn := fun _ => fun
  | [d1, d2, d3, d4, d5, d6, d7] => { results := [.lit (.bool false)], args := [d1, d2, d3, d4, d5, d6, d7] }
  | _ => none }
def FnForgetUnlessDialingWaitsForEndDialWrongFalsely : Prop := fnForgetUnlessDialingWaitsForEndDialRow.holds Try.pinned (OpenSpec.ofChange fnForgetUnlessDialingWaitsForEndDialWrong)

/-- 'zzlaws_dialhistory_b1.FnForgetExact': WHATEVER THE INPUT: true; the input reads as it did. -/
def fnForgetExactSpec : ChangeSpec := { name := "fnForgetExact", fn := fun _ => fun
  | [d1, d2, d3, d4, d5, d6, d7, d8] => { results := [.lit (.bool true)], args := [d1, d2, d3, d4, d5, d6, d7, d8] }
  | _ => none }
def fnForgetExactRow : OpenClaim := { program := "qxb6616570a", sum := "b6909abc906a57cd89a029c8ec954161a0168281669e0d0af67f825fefa9dbe7", func := "example.com/quotawire/quotawire/zzlaws_dialhistory_b1.FnForgetExact", spec := "fnForgetExact", inPlace := ["sync/atomic.StoreUint32", "(*internal/sync.Mutex).Lock", "internal/race.Disable", "sync/atomic.CompareAndSwapInt32", "internal/race.Enable", "internal/race.Acquire", "(*internal/sync.Mutex).lockSlow", "internal/sync.runtime_canSpin", "internal/sync.runtime_doSpin", "internal/sync.throw", "internal/sync.runtime_nanotime", "internal/sync.runtime_SemacquireMutex", "sync/atomic.AddInt32", "(*internal/sync.Mutex).Unlock", "internal/race.ReleaseMerge", "(*internal/sync.Mutex).unlockSlow", "internal/sync.fatal", "internal/sync.runtime_Semrelease", "sync/atomic.LoadUint32"], apart := false }
def FnForgetExactSaid : Prop := fnForgetExactRow.holds Try.pinned (OpenSpec.ofChange fnForgetExactSpec)

/-- ITS FALSE NEIGHBOUR: 'it returns false'. Refute it at one input. -/
def fnForgetExactWrong : ChangeSpec := { name := "fnForgetExact", fn := fun _ => fun
  | [d1, d2, d3, d4, d5, d6, d7, d8] => { results := [.lit (.bool false)], args := [d1, d2, d3, d4, d5, d6, d7, d8] }
  | _ => none }
def FnForgetExactWrongFalsely : Prop := fnForgetExactRow.holds Try.pinned (OpenSpec.ofChange fnForgetExactWrong)

/-- 'zzlaws_dialhistory_b1.FnForgetAllInRotation': WHATEVER THE INPUT: true; the input reads as it did. -/
def fnForgetAllInRotationSpec : ChangeSpec := { name := "fnForgetAllInRotation", fn := fun _ => fun
  | [d1, d2, d3, d4, d5, d6, d7] => { results := [.lit (.bool true)], args := [d1, d2, d3, d4, d5, d6, d7] }
  | _ => none }
def fnForgetAllInRotationRow : OpenClaim := { program := "qxb6616570a", sum := "b6909abc906a57cd89a029c8ec954161a0168281669e0d0af67f825fefa9dbe7", func := "example.com/quotawire/quotawire/zzlaws_dialhistory_b1.FnForgetAllInRotation", spec := "fnForgetAllInRotation", inPlace := ["sync/atomic.StoreUint32", "(*internal/sync.Mutex).Lock", "internal/race.Disable", "sync/atomic.CompareAndSwapInt32", "internal/race.Enable", "internal/race.Acquire", "(*internal/sync.Mutex).lockSlow", "internal/sync.runtime_canSpin", "internal/sync.runtime_doSpin", "internal/sync.throw", "internal/sync.runtime_nanotime", "internal/sync.runtime_SemacquireMutex", "sync/atomic.AddInt32", "(*internal/sync.Mutex).Unlock", "internal/race.ReleaseMerge", "(*internal/sync.Mutex).unlockSlow", "internal/sync.fatal", "internal/sync.runtime_Semrelease", "sync/atomic.LoadUint32"], apart := false }
def FnForgetAllInRotationSaid : Prop := fnForgetAllInRotationRow.holds Try.pinned (OpenSpec.ofChange fnForgetAllInRotationSpec)

/-- ITS FALSE NEIGHBOUR: 'it returns false'. Refute it at one input. -/
def fnForgetAllInRotationWrong : ChangeSpec := { name := "fnForgetAllInRotation", fn := fun _ => fun
  | [d1, d2, d3, d4, d5, d6, d7] => { results := [.lit (.bool false)], args := [d1, d2, d3, d4, d5, d6, d7] }
  | _ => none }
def FnForgetAllInRotationWrongFalsely : Prop := fnForgetAllInRotationRow.holds Try.pinned (OpenSpec.ofChange fnForgetAllInRotationWrong)

/-- 'zzlaws_dialhistory_b1.FnEndDialTwice': WHATEVER THE INPUT: true; the input reads as it did. -/
def fnEndDialTwiceSpec : ChangeSpec := { name := "fnEndDialTwice", fn := fun _ => fun
  | [d1, d2, d3, d4, d5, d6, d7] => { results := [.lit (.bool true)], args := [d1, d2, d3, d4, d5, d6, d7] }
  | _ => none }
def fnEndDialTwiceRow : OpenClaim := { program := "qxb6616570a", sum := "b6909abc906a57cd89a029c8ec954161a0168281669e0d0af67f825fefa9dbe7", func := "example.com/quotawire/quotawire/zzlaws_dialhistory_b1.FnEndDialTwice", spec := "fnEndDialTwice", inPlace := ["sync/atomic.StoreUint32", "(*internal/sync.Mutex).Lock", "internal/race.Disable", "sync/atomic.CompareAndSwapInt32", "internal/race.Enable", "internal/race.Acquire", "(*internal/sync.Mutex).lockSlow", "internal/sync.runtime_canSpin", "internal/sync.runtime_doSpin", "internal/sync.throw", "internal/sync.runtime_nanotime", "internal/sync.runtime_SemacquireMutex", "sync/atomic.AddInt32", "(*internal/sync.Mutex).Unlock", "internal/race.ReleaseMerge", "(*internal/sync.Mutex).unlockSlow", "internal/sync.fatal", "internal/sync.runtime_Semrelease", "sync/atomic.LoadUint32"], unfollowed := true, recurses := true, apart := false }
def FnEndDialTwiceSaid : Prop := fnEndDialTwiceRow.holds Try.pinned (OpenSpec.ofChange fnEndDialTwiceSpec)

/-- ITS FALSE NEIGHBOUR: 'it returns false'. Refute it at one input. -/
def fnEndDialTwiceWrong : ChangeSpec := { name := "fnEndDialTwice", fn := fun _ => fun
  | [d1, d2, d3, d4, d5, d6, d7] => { results := [.lit (.bool false)], args := [d1, d2, d3, d4, d5, d6, d7] }
  | _ => none }
def FnEndDialTwiceWrongFalsely : Prop := fnEndDialTwiceRow.holds Try.pinned (OpenSpec.ofChange fnEndDialTwiceWrong)

/-- 'zzlaws_dialhistory_b1.FnEndDialOnlyByTheDialer': WHATEVER THE INPUT: true; the input reads as it did. -/
def fnEndDialOnlyByTheDialerSpec : ChangeSpec := { name := "fnEndDialOnlyByTheDialer", fn := fun _ => fun
  | [d1, d2, d3, d4, d5, d6, d7] => { results := [.lit (.bool true)], args := [d1, d2, d3, d4, d5, d6, d7] }
  | _ => none }
def fnEndDialOnlyByTheDialerRow : OpenClaim := { program := "qxb6616570a", sum := "b6909abc906a57cd89a029c8ec954161a0168281669e0d0af67f825fefa9dbe7", func := "example.com/quotawire/quotawire/zzlaws_dialhistory_b1.FnEndDialOnlyByTheDialer", spec := "fnEndDialOnlyByTheDialer", inPlace := ["sync/atomic.StoreUint32", "(*internal/sync.Mutex).Lock", "internal/race.Disable", "sync/atomic.CompareAndSwapInt32", "internal/race.Enable", "internal/race.Acquire", "(*internal/sync.Mutex).lockSlow", "internal/sync.runtime_canSpin", "internal/sync.runtime_doSpin", "internal/sync.throw", "internal/sync.runtime_nanotime", "internal/sync.runtime_SemacquireMutex", "sync/atomic.AddInt32", "(*internal/sync.Mutex).Unlock", "internal/race.ReleaseMerge", "(*internal/sync.Mutex).unlockSlow", "internal/sync.fatal", "internal/sync.runtime_Semrelease", "sync/atomic.LoadUint32"], unfollowed := true, recurses := true, apart := false }
def FnEndDialOnlyByTheDialerSaid : Prop := fnEndDialOnlyByTheDialerRow.holds Try.pinned (OpenSpec.ofChange fnEndDialOnlyByTheDialerSpec)

/-- ITS FALSE NEIGHBOUR: 'it returns false'. Refute it at one input. -/
def fnEndDialOnlyByTheDialerWrong : ChangeSpec := { name := "fnEndDialOnlyByTheDialer", fn := fun _ => fun
  | [d1, d2, d3, d4, d5, d6, d7] => { results := [.lit (.bool false)], args := [d1, d2, d3, d4, d5, d6, d7] }
  | _ => none }
def FnEndDialOnlyByTheDialerWrongFalsely : Prop := fnEndDialOnlyByTheDialerRow.holds Try.pinned (OpenSpec.ofChange fnEndDialOnlyByTheDialerWrong)

/-- 'zzlaws_dialhistory_b1.FnUpdateTwiceNewsOnce': WHATEVER THE INPUT: true; the input reads as it did. -/
def fnUpdateTwiceNewsOnceSpec : ChangeSpec := { name := "fnUpdateTwiceNewsOnce", fn := fun _ => fun
  | [d1, d2, d3, d4, d5, d6, d7, d8, d9, d10, d11, d12] => { results := [.lit (.bool true)], args := [d1, d2, d3, d4, d5, d6, d7, d8, d9, d10, d11, d12] }
  | _ => none }
def fnUpdateTwiceNewsOnceRow : OpenClaim := { program := "qxb6616570a", sum := "b6909abc906a57cd89a029c8ec954161a0168281669e0d0af67f825fefa9dbe7", func := "example.com/quotawire/quotawire/zzlaws_dialhistory_b1.FnUpdateTwiceNewsOnce", spec := "fnUpdateTwiceNewsOnce", inPlace := ["sync/atomic.StoreUint32", "(*internal/sync.Mutex).Lock", "internal/race.Disable", "sync/atomic.CompareAndSwapInt32", "internal/race.Enable", "internal/race.Acquire", "(*internal/sync.Mutex).lockSlow", "internal/sync.runtime_canSpin", "internal/sync.runtime_doSpin", "internal/sync.throw", "internal/sync.runtime_nanotime", "internal/sync.runtime_SemacquireMutex", "sync/atomic.AddInt32", "(*internal/sync.Mutex).Unlock", "internal/race.ReleaseMerge", "(*internal/sync.Mutex).unlockSlow", "internal/sync.fatal", "internal/sync.runtime_Semrelease", "sync/atomic.LoadUint32"], unfollowed := true, recurses := true, apart := false }
def FnUpdateTwiceNewsOnceSaid : Prop := fnUpdateTwiceNewsOnceRow.holds Try.pinned (OpenSpec.ofChange fnUpdateTwiceNewsOnceSpec)

/-- ITS FALSE NEIGHBOUR: 'it returns false'. Refute it at one input. -/
def fnUpdateTwiceNewsOnceWrong : ChangeSpec := { name := "fnUpdateTwiceNewsOnce", fn := fun _ => fun
  | [d1, d2, d3, d4, d5, d6, d7, d8, d9, d10, d11, d12] => { results := [.lit (.bool false)], args := [d1, d2, d3, d4, d5, d6, d7, d8, d9, d10, d11, d12] }
  | _ => none }
def FnUpdateTwiceNewsOnceWrongFalsely : Prop := fnUpdateTwiceNewsOnceRow.holds Try.pinned (OpenSpec.ofChange fnUpdateTwiceNewsOnceWrong)

end Rows
end Go.Proofs.Qxb6616570a
