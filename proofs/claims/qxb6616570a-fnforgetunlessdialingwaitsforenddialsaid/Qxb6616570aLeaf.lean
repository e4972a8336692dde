/- The contracts of the small functions: getters, setters, makers. -/
import Derived.Test.Qxb6616570aRows
import Derived.Test.Qxb6616570aLocks
import Derived.Test.Qxb6616570aEq
import Derived.WalkKit
import Derived.WalkSpells
import Derived.WalkLawsBesides
import Derived.RegionCalls
import Derived.Deep.QuietTactic
import Derived.BigQuiet
set_option linter.unusedSimpArgs false
set_option linter.unusedVariables false
namespace Go.Proofs.Qxb6616570a
open Go.RowKit

set_option maxHeartbeats 400000 in
theorem recEntries_any (r : Nat) (v : Value) (w : World) (h : w.cell? ⟨r, 7, none⟩ = some v) :
    Calls Try.prog 38 #[.pointer (some ⟨r, 0, none⟩)] w fun e w' => e = .returned v ∧ w' = w := by
  go_enter Try.func38, Try.ntmps38
  go_wp2
  go_ret
  exact ⟨rfl, rfl⟩

set_option maxHeartbeats 400000 in
theorem recDialer_any (r : Nat) (v : Value) (w : World) (h : w.cell? ⟨r, 5, none⟩ = some v) :
    Calls Try.prog 46 #[.pointer (some ⟨r, 0, none⟩)] w fun e w' => e = .returned v ∧ w' = w := by
  go_enter Try.func46, Try.ntmps46
  go_wp2
  go_ret
  exact ⟨rfl, rfl⟩

set_option maxHeartbeats 400000 in
theorem recOffer_any (r : Nat) (v : Value) (w : World) (h : w.cell? ⟨r, 6, none⟩ = some v) :
    Calls Try.prog 47 #[.pointer (some ⟨r, 0, none⟩)] w fun e w' => e = .returned v ∧ w' = w := by
  go_enter Try.func47, Try.ntmps47
  go_wp2
  go_ret
  exact ⟨rfl, rfl⟩

set_option maxHeartbeats 400000 in
theorem recFailures_any (r : Nat) (v : Value) (w : World) (h : w.cell? ⟨r, 0, none⟩ = some v) :
    Calls Try.prog 48 #[.pointer (some ⟨r, 0, none⟩)] w fun e w' => e = .returned v ∧ w' = w := by
  go_enter Try.func48, Try.ntmps48
  go_wp2
  go_ret
  exact ⟨rfl, rfl⟩

set_option maxHeartbeats 400000 in
theorem recFailing_any (r : Nat) (v : Value) (w : World) (h : w.cell? ⟨r, 4, none⟩ = some v) :
    Calls Try.prog 49 #[.pointer (some ⟨r, 0, none⟩)] w fun e w' => e = .returned v ∧ w' = w := by
  go_enter Try.func49, Try.ntmps49
  go_wp2
  go_ret
  exact ⟨rfl, rfl⟩

set_option maxHeartbeats 400000 in
theorem entRecord_any (e : Nat) (v : Value) (w : World) (h : w.cell? ⟨e, 2, none⟩ = some v) :
    Calls Try.prog 39 #[.pointer (some ⟨e, 0, none⟩)] w fun e w' => e = .returned v ∧ w' = w := by
  go_enter Try.func39, Try.ntmps39
  go_wp2
  go_ret
  exact ⟨rfl, rfl⟩

set_option maxHeartbeats 400000 in
theorem entNext_any (e : Nat) (v : Value) (w : World) (h : w.cell? ⟨e, 3, none⟩ = some v) :
    Calls Try.prog 40 #[.pointer (some ⟨e, 0, none⟩)] w fun e w' => e = .returned v ∧ w' = w := by
  go_enter Try.func40, Try.ntmps40
  go_wp2
  go_ret
  exact ⟨rfl, rfl⟩

set_option maxHeartbeats 400000 in
theorem entNews_any (e : Nat) (v : Value) (w : World) (h : w.cell? ⟨e, 4, none⟩ = some v) :
    Calls Try.prog 41 #[.pointer (some ⟨e, 0, none⟩)] w fun e w' => e = .returned v ∧ w' = w := by
  go_enter Try.func41, Try.ntmps41
  go_wp2
  go_ret
  exact ⟨rfl, rfl⟩

set_option maxHeartbeats 400000 in
theorem entOutcome_any (e : Nat) (x : Int) (w : World) (h : w.cell? ⟨e, 5, none⟩ = some (.int .u8 x)) (h0 : 0 ≤ x) (h1 : x < 256) :
    Calls Try.prog 42 #[.pointer (some ⟨e, 0, none⟩)] w fun e w' => e = .returned (.int .u8 x) ∧ w' = w := by
  go_enter Try.func42, Try.ntmps42
  go_wp2
  go_ret
  exact ⟨rfl, rfl⟩

set_option maxHeartbeats 400000 in
theorem partNewsLen_any (p : Nat) (a : Option Addr) (n c : Nat) (w : World) (h : w.cell? ⟨p, 2, none⟩ = some (.slice a n c)) :
    Calls Try.prog 43 #[.pointer (some ⟨p, 0, none⟩)] w fun e w' => e = .returned (.int .i64 n) ∧ w' = w := by
  go_enter Try.func43, Try.ntmps43
  go_wp2
  go_ret
  exact ⟨rfl, rfl⟩

set_option maxHeartbeats 400000 in
theorem partNewsAt_any (p g c : Nat) (v : Value) (w : World) (h : w.cell? ⟨p, 2, none⟩ = some (.slice (some ⟨g, 0, none⟩) 1 c)) (hg : w.cell? ⟨g, 0, none⟩ = some v) :
    Calls Try.prog 44 #[.pointer (some ⟨p, 0, none⟩), .int .i64 0] w fun e w' => e = .returned v ∧ w' = w := by
  go_enter Try.func44, Try.ntmps44
  go_wp2
  go_ret
  exact ⟨rfl, rfl⟩

set_option maxHeartbeats 400000 in
theorem load_any (p k : Nat) (x : Int) (w : World) (h : w.cell? ⟨p, k, none⟩ = some (.int .u32 x)) :
    Calls Try.prog 63 #[.pointer (some ⟨p, k, none⟩)] w fun e w' => e = .returned (.bool (x != 0)) ∧ w' = w := by
  have hl := run_call_load (P := Try.prog) Try.func72 (by kernel_rfl) (by kernel_rfl) (by kernel_rfl) .u32 (by kernel_rfl) h
  go_enter Try.func63, Try.ntmps63
  go_wp2
  go_ret
  exact ⟨rfl, rfl⟩

set_option maxHeartbeats 400000 in
theorem partHasNews_any (p : Nat) (x : Int) (w : World) (h : w.cell? ⟨p, 4, none⟩ = some (.int .u32 x)) :
    Calls Try.prog 45 #[.pointer (some ⟨p, 0, none⟩)] w fun e w' => e = .returned (.bool (x != 0)) ∧ w' = w := by
  go_enter Try.func45, Try.ntmps45
  go_wp2_with (go_at_call 63; refine (load_any p 4 x _ h).mono ?_; rintro e w' ⟨rfl, rfl⟩)
  go_ret
  exact ⟨rfl, rfl⟩

set_option maxHeartbeats 400000 in
theorem store_any (p k : Nat) (x : Int) (w : World) (h : w.cell? ⟨p, k, none⟩ = some (.int .u32 x)) (hz : w.frozen? ⟨p, k, none⟩ = false) :
    Calls Try.prog 58 #[.pointer (some ⟨p, k, none⟩), .bool true] w fun e w' => e = .returned (.tuple #[]) ∧ w' = (w.setCell ⟨p, k, none⟩ (.int .u32 1)).drew := by
  have h' : w.drew.cell? ⟨p, k, none⟩ = some (.int .u32 x) := h
  have hz' : w.drew.frozen? ⟨p, k, none⟩ = false := hz
  have hst := run_call_store (P := Try.prog) Try.func66 (by kernel_rfl) (by kernel_rfl) (by kernel_rfl) (by kernel_rfl) (k := .u32) (y := 1) h' hz'
  go_enter Try.func58, Try.ntmps58
  go_region_calls
  go_end0
  exact ⟨rfl, rfl⟩

set_option maxHeartbeats 400000 in
theorem fire_any (p k : Nat) (w : World) (h : w.cell? ⟨p, k, none⟩ = some (.chan none)) :
    Calls Try.prog 71 #[.pointer (some ⟨p, k, none⟩)] w fun e w' => e = .returned (.tuple #[]) ∧ w' = w := by
  have q : ∀ w, (binOp .neq 99 (.chan none) (.chan none)).run Try.prog w = .ok (.bool false) w := fun _ => by kernel_rfl
  go_enter Try.func71, Try.ntmps71
  go_wp2
  go_end0
  exact ⟨rfl, rfl⟩

set_option maxHeartbeats 400000 in
theorem pick_nil (eb n c : Nat) (k : Int) (w : World) (h : k < 0) :
    Calls Try.prog 35 #[.slice (some ⟨eb, 0, none⟩) n c, .int .i64 k] w fun e w' => e = .returned (.pointer none) ∧ w' = w := by
  go_enter Try.func35, Try.ntmps35
  go_wp2
  go_ret
  exact ⟨rfl, rfl⟩

set_option maxHeartbeats 400000 in
theorem pick_at (eb n c k : Nat) (v : Value) (w : World) (h : k < n) (hc : w.cell? ⟨eb, k, none⟩ = some v) :
    Calls Try.prog 35 #[.slice (some ⟨eb, 0, none⟩) n c, .int .i64 k] w fun e w' => e = .returned v ∧ w' = w := by
  have h0 : (0 : Int) ≤ (k : Int) := by omega
  have h1 : (k : Int) < (n : Int) := by omega
  go_enter Try.func35, Try.ntmps35
  go_wp2
  go_ret
  exact ⟨rfl, rfl⟩

end Go.Proofs.Qxb6616570a
