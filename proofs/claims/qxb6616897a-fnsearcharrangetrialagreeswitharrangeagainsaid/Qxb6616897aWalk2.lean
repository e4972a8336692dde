/- arrangeTrial and the helpers of the laws. -/
import Derived.Test.Qxb6616897aWalk1
import Derived.Recover
set_option linter.unusedSimpArgs false
set_option linter.unusedVariables false
namespace Go.Proofs.Qxb6616897a
open Go.RowKit

set_option maxHeartbeats 400000 in
theorem nonce_any (fb : Nat) (fresh : Int) (w : World) (h : w.cell? ⟨fb, 0, none⟩ = some (.int .u32 fresh)) :
    Calls Try.prog 27 #[.pointer (some ⟨fb, 0, none⟩)] w fun e w' => e = .returned (.int .u32 fresh) ∧ w' = w := by
  go_enter Try.func27, Try.ntmps27
  go_wp2
  go_ret
  exact ⟨rfl, rfl⟩

set_option maxHeartbeats 1000000 in
theorem trial_any {s : Sr} {sb fb : Nat} {fresh : Int} {w : World} (h : SRep s sb fb fresh w) (hf : Fits s) (now : Int) (n0 : 0 ≤ now) (n1 : now ≤ 9223372036854775807) :
    Calls Try.prog 28 #[.pointer (some ⟨sb, 0, none⟩), .int .i64 now] w fun e w' => e = .returned (.int .u8 1) ∧ SRep (trialS s fresh now) sb fb fresh w' ∧ Mod (fun k => k = sb) w w' := by
  have c5 : w.cell? ⟨sb, 5, none⟩ = some (.func (.func 27) #[] #[.pointer (some ⟨fb, 0, none⟩)]) := cell_of h.hs rfl
  have c8 : w.cell? ⟨sb, 8, none⟩ = some (.int .u32 s.nonce) := cell_of h.hs rfl
  have c9 : w.cell? ⟨sb, 9, none⟩ = some (.int .i64 s.sends) := cell_of h.hs rfl
  have c10 : w.cell? ⟨sb, 10, none⟩ = some (.int .i64 s.arranged) := cell_of h.hs rfl
  have fz := frozen_of h.hs
  have f0 : w.cell? ⟨fb, 0, none⟩ = some (.int .u32 fresh) := cell_of h.hf rfl
  have H : Hid (SRep s sb fb fresh w) := h
  have HF : Hid (Fits s) := hf
  clear h hf
  go_enter Try.func28, Try.ntmps28
  go_wp2_with (go_at_call 27; refine (nonce_any fb fresh _ f0).mono ?_; rintro e w' ⟨rfl, hw⟩; obtain rfl := hw.symm)
  have r3 : SRep { s with nonce := fresh, sends := 0, arranged := now } sb fb fresh (((w.setCell ⟨sb, 8, none⟩ (.int .u32 fresh)).setCell ⟨sb, 9, none⟩ (.int .i64 0)).setCell ⟨sb, 10, none⟩ (.int .i64 now)) :=
    ((H.out.set (s' := { s with nonce := fresh }) 8 (.int .u32 fresh) rfl).set (s' := { s with nonce := fresh, sends := 0 }) 9 (.int .i64 0) rfl).set (s' := { s with nonce := fresh, sends := 0, arranged := now }) 10 (.int .i64 now) rfl
  have HM : Hid (Mod (fun k => k = sb) w (((w.setCell ⟨sb, 8, none⟩ (.int .u32 fresh)).setCell ⟨sb, 9, none⟩ (.int .i64 0)).setCell ⟨sb, 10, none⟩ (.int .i64 now))) :=
    mset (mset (mset (Mod.refl (fun k => k = sb) w) 8 (.int .u32 fresh)) 9 (.int .i64 0)) 10 (.int .i64 now)
  refine (again_any r3 ⟨HF.out.s0, HF.out.s1, HF.out.p0, HF.out.p1, HF.out.t0, HF.out.t1⟩ now n0 n1).mono ?_
  rintro e w' ⟨rfl, r4, m4⟩
  have H4 : Hid (SRep (trialS s fresh now) sb fb fresh w' ∧ Mod (fun k => k = sb) w w') := ⟨r4, HM.out.trans m4⟩
  clear r3 r4 m4
  go_wp2
  go_ret
  exact ⟨rfl, H4.out⟩

set_option maxHeartbeats 400000 in
theorem zztrial_any {s : Sr} {sb fb : Nat} {fresh : Int} {w : World} (h : SRep s sb fb fresh w) (hf : Fits s) (now : Int) (n0 : 0 ≤ now) (n1 : now ≤ 9223372036854775807) :
    Calls Try.prog 19 #[.pointer (some ⟨sb, 0, none⟩), .int .i64 now] w fun e w' => e = .returned (.int .u8 1) ∧ SRep (trialS s fresh now) sb fb fresh w' ∧ Mod (fun k => k = sb) w w' := by
  have H : Hid (SRep s sb fb fresh w) := h
  have HF : Hid (Fits s) := hf
  clear h hf
  go_enter Try.func19, Try.ntmps19
  go_wp2_with fail
  refine (trial_any H.out HF.out now n0 n1).mono ?_
  rintro e w' ⟨rfl, r4, m4⟩
  have H4 : Hid (SRep (trialS s fresh now) sb fb fresh w' ∧ Mod (fun k => k = sb) w w') := ⟨r4, m4⟩
  clear r4 m4
  go_wp2
  go_ret
  exact ⟨rfl, H4.out⟩

set_option maxHeartbeats 400000 in
theorem zzagain_any {s : Sr} {sb fb : Nat} {fresh : Int} {w : World} (h : SRep s sb fb fresh w) (hf : Fits s) (now : Int) (n0 : 0 ≤ now) (n1 : now ≤ 9223372036854775807) :
    Calls Try.prog 22 #[.pointer (some ⟨sb, 0, none⟩), .int .i64 now] w fun e w' => e = .returned (.int .u8 1) ∧ SRep (againS s now) sb fb fresh w' ∧ Mod (fun k => k = sb) w w' := by
  have H : Hid (SRep s sb fb fresh w) := h
  have HF : Hid (Fits s) := hf
  clear h hf
  go_enter Try.func22, Try.ntmps22
  go_wp2_with fail
  refine (again_any H.out HF.out now n0 n1).mono ?_
  rintro e w' ⟨rfl, r4, m4⟩
  have H4 : Hid (SRep (againS s now) sb fb fresh w' ∧ Mod (fun k => k = sb) w w') := ⟨r4, m4⟩
  clear r4 m4
  go_wp2
  go_ret
  exact ⟨rfl, H4.out⟩

/-- A search's plain fields, as ZZSearch holds them. -/
def Sr.plain (s : Sr) : Array Value := #[.int .i64 s.safe, .int .i64 s.tooLong, .int .i64 s.tests, .int .i64 s.timeout, .int .i64 s.retries, .int .u8 s.phase, .int .u32 s.nonce, .int .i64 s.sends, .int .i64 s.arranged, .int .i64 s.due, .bool s.mapped, .int .i64 s.made, .int .i64 s.passed]
/-- .. as SearchState holds them. -/
def Sr.state (s : Sr) (fresh : Int) : Array Value := #[.int .i64 s.safe, .int .i64 s.tooLong, .int .i64 s.tests, .int .i64 s.timeout, .int .i64 s.retries, .int .u32 fresh, .int .u8 s.phase, .int .u32 s.nonce, .int .i64 s.sends, .int .i64 s.arranged, .int .i64 s.due, .bool s.mapped, .int .i64 s.made, .int .i64 s.passed]

section
variable (w : World) (A B C : Obj)
theorem three1 : (((w.alloc A).alloc B).alloc C).heap[w.heap.size + 1]? = some B := by
  show (((w.heap.push A).push B).push C)[w.heap.size + 1]? = some B
  rw [Array.getElem?_push, if_neg (by simp), Array.getElem?_push, if_pos (by simp)]
theorem three2 : (((w.alloc A).alloc B).alloc C).heap[w.heap.size + 1 + 1]? = some C := by
  show (((w.heap.push A).push B).push C)[w.heap.size + 1 + 1]? = some C
  rw [Array.getElem?_push, if_pos (by simp)]
end

set_option maxHeartbeats 1000000 in
theorem newSearch_any (s : Sr) (fresh : Int) (w : World) :
    Calls Try.prog 17 #[.agg s.plain, .int .u32 fresh] w fun e w' => ∃ sb fb, e = .returned (.pointer (some ⟨sb, 0, none⟩)) ∧ SRep s sb fb fresh w' ∧ Mod (fun _ => False) w w' ∧ w.heap.size ≤ sb := by
  have hmf : ∀ (fn : Fn) (first cap : Array Value) (w : World), (Instr.makeFunc fn first cap).run Try.prog w = .ok (.func fn first cap) w := fun _ _ _ _ => rfl
  unfold Sr.plain
  go_enter Try.func17, Try.ntmps17
  go_wp2
  go_ret
  exact ⟨_, _, rfl, ⟨three2 _ _ _ _, three1 _ _ _ _⟩, (((Mod.refl _ _).alloc _).alloc _).alloc _, by omega⟩

set_option maxHeartbeats 1000000 in
theorem searchOf_any (s : Sr) (fresh : Int) (w : World) :
    Calls Try.prog 18 #[.agg (s.state fresh)] w fun e w' => e = .returned (.agg s.plain) ∧ Mod (fun _ => False) w w' := by
  unfold Sr.plain Sr.state
  go_enter Try.func18, Try.ntmps18
  go_wp2
  exact bodyPost_ret (v := .agg #[.int .i64 s.safe, .int .i64 s.tooLong, .int .i64 s.tests, .int .i64 s.timeout, .int .i64 s.retries, .int .u8 s.phase, .int .u32 s.nonce, .int .i64 s.sends, .int .i64 s.arranged, .int .i64 s.due, .bool s.mapped, .int .i64 s.made, .int .i64 s.passed]) (by simp [results, Try.results18, go_sem]) rfl ⟨rfl, ((Mod.refl _ _).alloc _).alloc _⟩

set_option maxHeartbeats 1000000 in
theorem fits_true (s : Sr) (fresh now : Int) (w : World) (h1 : 0 ≤ now) (h2 : 0 ≤ s.passed) (h3 : 0 ≤ s.timeout) (h4 : 0 ≤ s.safe) (h5 : s.safe ≤ 9223372036) (h6 : s.phase ≤ 7) :
    Calls Try.prog 16 #[.agg (s.state fresh), .int .i64 now] w fun e w' => e = .returned (.bool true) ∧ Mod (fun _ => False) w w' := by
  unfold Sr.state
  go_enter Try.func16, Try.ntmps16
  go_wp2
  go_ret
  exact ⟨rfl, (Mod.refl _ _).alloc _⟩

set_option maxHeartbeats 1000000 in
theorem fits_f1 (s : Sr) (fresh now : Int) (w : World)  (hn : ¬ 0 ≤ now) :
    Calls Try.prog 16 #[.agg (s.state fresh), .int .i64 now] w fun e w' => e = .returned (.bool false) ∧ Mod (fun _ => False) w w' := by
  unfold Sr.state
  go_enter Try.func16, Try.ntmps16
  go_wp2
  go_ret
  exact ⟨rfl, (Mod.refl _ _).alloc _⟩

set_option maxHeartbeats 1000000 in
theorem fits_f2 (s : Sr) (fresh now : Int) (w : World) (h1 : 0 ≤ now) (hn : ¬ 0 ≤ s.passed) :
    Calls Try.prog 16 #[.agg (s.state fresh), .int .i64 now] w fun e w' => e = .returned (.bool false) ∧ Mod (fun _ => False) w w' := by
  unfold Sr.state
  go_enter Try.func16, Try.ntmps16
  go_wp2
  go_ret
  exact ⟨rfl, (Mod.refl _ _).alloc _⟩

set_option maxHeartbeats 1000000 in
theorem fits_f3 (s : Sr) (fresh now : Int) (w : World) (h1 : 0 ≤ now) (h2 : 0 ≤ s.passed) (hn : ¬ 0 ≤ s.timeout) :
    Calls Try.prog 16 #[.agg (s.state fresh), .int .i64 now] w fun e w' => e = .returned (.bool false) ∧ Mod (fun _ => False) w w' := by
  unfold Sr.state
  go_enter Try.func16, Try.ntmps16
  go_wp2
  go_ret
  exact ⟨rfl, (Mod.refl _ _).alloc _⟩

set_option maxHeartbeats 1000000 in
theorem fits_f4 (s : Sr) (fresh now : Int) (w : World) (h1 : 0 ≤ now) (h2 : 0 ≤ s.passed) (h3 : 0 ≤ s.timeout) (hn : ¬ 0 ≤ s.safe) :
    Calls Try.prog 16 #[.agg (s.state fresh), .int .i64 now] w fun e w' => e = .returned (.bool false) ∧ Mod (fun _ => False) w w' := by
  unfold Sr.state
  go_enter Try.func16, Try.ntmps16
  go_wp2
  go_ret
  exact ⟨rfl, (Mod.refl _ _).alloc _⟩

set_option maxHeartbeats 1000000 in
theorem fits_f5 (s : Sr) (fresh now : Int) (w : World) (h1 : 0 ≤ now) (h2 : 0 ≤ s.passed) (h3 : 0 ≤ s.timeout) (h4 : 0 ≤ s.safe) (hn : ¬ s.safe ≤ 9223372036) :
    Calls Try.prog 16 #[.agg (s.state fresh), .int .i64 now] w fun e w' => e = .returned (.bool false) ∧ Mod (fun _ => False) w w' := by
  unfold Sr.state
  go_enter Try.func16, Try.ntmps16
  go_wp2
  go_ret
  exact ⟨rfl, (Mod.refl _ _).alloc _⟩

set_option maxHeartbeats 1000000 in
theorem fits_f6 (s : Sr) (fresh now : Int) (w : World) (h1 : 0 ≤ now) (h2 : 0 ≤ s.passed) (h3 : 0 ≤ s.timeout) (h4 : 0 ≤ s.safe) (h5 : s.safe ≤ 9223372036) (hn : ¬ s.phase ≤ 7) :
    Calls Try.prog 16 #[.agg (s.state fresh), .int .i64 now] w fun e w' => e = .returned (.bool false) ∧ Mod (fun _ => False) w w' := by
  unfold Sr.state
  go_enter Try.func16, Try.ntmps16
  go_wp2
  go_ret
  exact ⟨rfl, (Mod.refl _ _).alloc _⟩

theorem fits_false (s : Sr) (fresh now : Int) (w : World) (h : ¬ (0 ≤ now ∧ 0 ≤ s.passed ∧ 0 ≤ s.timeout ∧ 0 ≤ s.safe ∧ s.safe ≤ 9223372036 ∧ s.phase ≤ 7)) :
    Calls Try.prog 16 #[.agg (s.state fresh), .int .i64 now] w fun e w' => e = .returned (.bool false) ∧ Mod (fun _ => False) w w' := by
  refine Decidable.byCases (p := 0 ≤ now) (fun h1 => ?_) (fun h1 => fits_f1 s fresh now w  h1)
  refine Decidable.byCases (p := 0 ≤ s.passed) (fun h2 => ?_) (fun h2 => fits_f2 s fresh now w h1 h2)
  refine Decidable.byCases (p := 0 ≤ s.timeout) (fun h3 => ?_) (fun h3 => fits_f3 s fresh now w h1 h2 h3)
  refine Decidable.byCases (p := 0 ≤ s.safe) (fun h4 => ?_) (fun h4 => fits_f4 s fresh now w h1 h2 h3 h4)
  refine Decidable.byCases (p := s.safe ≤ 9223372036) (fun h5 => ?_) (fun h5 => fits_f5 s fresh now w h1 h2 h3 h4 h5)
  refine Decidable.byCases (p := s.phase ≤ 7) (fun h6 => ?_) (fun h6 => fits_f6 s fresh now w h1 h2 h3 h4 h5 h6)
  exact absurd ⟨h1, h2, h3, h4, h5, h6⟩ h

end Go.Proofs.Qxb6616897a
