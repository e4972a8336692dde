/- The search in memory; later, heldUp, keptUntil, arrangeAgain, arrangeTrial. -/
import Derived.Test.Qxb6616897aNum
import Derived.Test.Qxb6616897aPlain
import Derived.Test.Qxb6616897aMem
import Derived.Deep.RegionHeld3
set_option linter.unusedSimpArgs false
set_option linter.unusedVariables false
namespace Go.Proofs.Qxb6616897a
open Go.RowKit

theorem later_any (t d : Int) (w : World) (h0 : 0 ≤ t) (h1 : t ≤ 9223372036854775807) (d0 : 0 ≤ d) (d1 : d ≤ 9223372036854775807) :
    Calls Try.prog 38 #[.int .i64 t, .int .i64 d] w fun e w' => e = .returned (.int .i64 (laterI t d)) ∧ w' = w := by
  unfold laterI
  by_cases h : 9223372036854775807 - t < d
  · rw [if_pos h]; exact later_cap t d w h0 h1 h d1
  · rw [if_neg h]; exact later_sum t d w h0 d0 (by omega)

set_option maxHeartbeats 400000 in
theorem heldUp_any (now dl : Int) (w : World) (h0 : 0 ≤ dl) (h1 : dl ≤ 9223372036854775807) :
    Calls Try.prog 36 #[.int .i64 now, .int .i64 dl] w fun e w' => e = .returned (.bool (heldI now dl)) ∧ w' = w := by
  go_enter Try.func36, Try.ntmps36
  go_wp2_with (go_at_call 38; refine (later_any _ _ _ h0 h1 (by omega) (by omega)).mono ?_; rintro e w' ⟨rfl, hw⟩; obtain rfl := hw.symm)
  go_ret
  exact ⟨rfl, rfl⟩

/-- The search's cells. -/
def Sr.cells (s : Sr) (fb : Nat) : Array Value := #[.int .i64 s.safe, .int .i64 s.tooLong, .int .i64 s.tests, .int .i64 s.timeout, .int .i64 s.retries, .func (.func 27) #[] #[.pointer (some ⟨fb, 0, none⟩)], .pointer none, .int .u8 s.phase, .int .u32 s.nonce, .int .i64 s.sends, .int .i64 s.arranged, .int .i64 s.due, .bool s.mapped, .int .i64 s.made, .int .i64 s.passed]

structure SRep (s : Sr) (sb fb : Nat) (fresh : Int) (w : World) : Prop where
  hs : w.heap[sb]? = some (.cells (s.cells fb) 65)
  hf : w.heap[fb]? = some (.cells #[.int .u32 fresh] 41)

/-- What may be handed to a search. -/
structure Fits (s : Sr) : Prop where
  s0 : 0 ≤ s.safe
  s1 : s.safe ≤ 9223372036
  p0 : 0 ≤ s.passed
  p1 : s.passed ≤ 9223372036854775807
  t0 : 0 ≤ s.timeout
  t1 : s.timeout ≤ 9223372036854775807

set_option maxHeartbeats 400000 in
theorem keptUntil_any {s : Sr} {sb fb : Nat} {fresh : Int} {w : World} (h : SRep s sb fb fresh w) (hf : Fits s) :
    Calls Try.prog 37 #[.pointer (some ⟨sb, 0, none⟩)] w fun e w' => e = .returned (.int .i64 (laterI s.passed (keptI s.safe s.phase))) ∧ w' = w := by
  have c0 : w.cell? ⟨sb, 0, none⟩ = some (.int .i64 s.safe) := cell_of h.hs rfl
  have c7 : w.cell? ⟨sb, 7, none⟩ = some (.int .u8 s.phase) := cell_of h.hs rfl
  have c14 : w.cell? ⟨sb, 14, none⟩ = some (.int .i64 s.passed) := cell_of h.hs rfl
  obtain ⟨s0, s1, p0, p1, t0, t1⟩ := hf
  have kb := keptI_bd (phase := s.phase) s0 s1
  have HK : Hid (3000000000 ≤ keptI s.safe s.phase ∧ keptI s.safe s.phase ≤ 9223372036000000000) := kb
  clear h kb t0 t1
  have tri : s.safe * 1000000000 < 3000000000 ∨ 3000000000 < s.safe * 1000000000 ∨ s.safe = 3 := by omega
  by_cases hp : s.phase = 1
  · have q1 : (s.phase == 1) = true := by simp [hp]
    have ek : Hid (keptI s.safe s.phase = 3000000000) := by show _ = _; unfold keptI; rw [if_pos hp]
    clear hp
    rcases tri with hg | hg | hg
    · go_enter Try.func37, Try.ntmps37
      go_wp2_with fail
      refine (later_any _ _ _ p0 p1 (by omega) (by omega)).mono ?_
      rintro e w' ⟨rfl, hw⟩
      obtain rfl := hw.symm
      go_wp2
      go_ret
      exact ⟨by rw [ek.out]; rfl, rfl⟩
    · go_enter Try.func37, Try.ntmps37
      go_wp2_with fail
      refine (later_any _ _ _ p0 p1 (by omega) (by omega)).mono ?_
      rintro e w' ⟨rfl, hw⟩
      obtain rfl := hw.symm
      go_wp2
      go_ret
      exact ⟨by rw [ek.out]; rfl, rfl⟩
    · have h1 : 3 ≤ s.safe := by omega
      have h2 : s.safe ≤ 3 := by omega
      clear hg
      go_enter Try.func37, Try.ntmps37
      go_wp2_with fail
      refine (later_any _ _ _ p0 p1 (by omega) (by omega)).mono ?_
      rintro e w' ⟨rfl, hw⟩
      obtain rfl := hw.symm
      go_wp2
      go_ret
      exact ⟨by rw [ek.out]; rfl, rfl⟩
  · have q1 : (s.phase == 1) = false := by simp [hp]
    rcases tri with hg | hg | hg
    · have ek : Hid (keptI s.safe s.phase = 3000000000) := by show _ = _; unfold keptI; rw [if_neg hp, if_neg (by omega)]
      clear hp
      go_enter Try.func37, Try.ntmps37
      go_wp2_with fail
      refine (later_any _ _ _ p0 p1 (by omega) (by omega)).mono ?_
      rintro e w' ⟨rfl, hw⟩
      obtain rfl := hw.symm
      go_wp2
      go_ret
      exact ⟨by rw [ek.out]; rfl, rfl⟩
    · have ek : Hid (keptI s.safe s.phase = s.safe * 1000000000) := by show _ = _; unfold keptI; rw [if_neg hp, if_pos hg]
      clear hp
      go_enter Try.func37, Try.ntmps37
      go_wp2_with fail
      refine (later_any _ _ _ p0 p1 (by omega) (by omega)).mono ?_
      rintro e w' ⟨rfl, hw⟩
      obtain rfl := hw.symm
      go_wp2
      go_ret
      exact ⟨by rw [ek.out]; rfl, rfl⟩
    · have ek : Hid (keptI s.safe s.phase = s.safe * 1000000000) := by show _ = _; unfold keptI; rw [if_neg hp, if_neg (by omega)]; omega
      have h1 : 3 ≤ s.safe := by omega
      have h2 : s.safe ≤ 3 := by omega
      clear hp hg
      go_enter Try.func37, Try.ntmps37
      go_wp2_with fail
      refine (later_any _ _ _ p0 p1 (by omega) (by omega)).mono ?_
      rintro e w' ⟨rfl, hw⟩
      obtain rfl := hw.symm
      go_wp2
      go_ret
      exact ⟨by rw [ek.out]; rfl, rfl⟩

theorem SRep.ne {s : Sr} {sb fb : Nat} {fresh : Int} {w : World} (h : SRep s sb fb fresh w) : fb ≠ sb := by
  intro e; have := h.hf; rw [e, h.hs] at this; simp at this
theorem SRep.set {s s' : Sr} {sb fb : Nat} {fresh : Int} {w : World} (h : SRep s sb fb fresh w) (k : Nat) (v : Value) (hc : (s.cells fb).setIfInBounds k v = s'.cells fb) : SRep s' sb fb fresh (w.setCell ⟨sb, k, none⟩ v) :=
  ⟨hc ▸ heap_set_same h.hs v, (heap_set_other _ h.ne _).trans h.hf⟩
theorem SRep.drewN {s : Sr} {sb fb : Nat} {fresh : Int} {w : World} (h : SRep s sb fb fresh w) (n : Nat) : SRep s sb fb fresh (w.drewN n) := ⟨h.hs, h.hf⟩

theorem mset {sb : Nat} {a w : World} (h : Mod (fun k => k = sb) a w) (k : Nat) (v : Value) : Mod (fun k => k = sb) a (w.setCell ⟨sb, k, none⟩ v) := h.setCell (Or.inl rfl) v

def againS (s : Sr) (now : Int) : Sr :=
  { s with mapped := s.mapped && !heldI now (laterI s.passed (keptI s.safe s.phase)), made := if s.mapped && !heldI now (laterI s.passed (keptI s.safe s.phase)) then s.made else now, passed := now, sends := wrap64 (s.sends + 1), phase := 0, due := laterI now s.timeout }
def trialS (s : Sr) (fresh now : Int) : Sr := againS { s with nonce := fresh, sends := 0, arranged := now } now

set_option maxHeartbeats 1000000 in
theorem again_any {s : Sr} {sb fb : Nat} {fresh : Int} {w : World} (h : SRep s sb fb fresh w) (hf : Fits s) (now : Int) (n0 : 0 ≤ now) (n1 : now ≤ 9223372036854775807) :
    Calls Try.prog 29 #[.pointer (some ⟨sb, 0, none⟩), .int .i64 now] w fun e w' => e = .returned (.int .u8 1) ∧ SRep (againS s now) sb fb fresh w' ∧ Mod (fun k => k = sb) w w' := by
  have c3 : w.cell? ⟨sb, 3, none⟩ = some (.int .i64 s.timeout) := cell_of h.hs rfl
  have c7 : w.cell? ⟨sb, 7, none⟩ = some (.int .u8 s.phase) := cell_of h.hs rfl
  have c9 : w.cell? ⟨sb, 9, none⟩ = some (.int .i64 s.sends) := cell_of h.hs rfl
  have c11 : w.cell? ⟨sb, 11, none⟩ = some (.int .i64 s.due) := cell_of h.hs rfl
  have c12 : w.cell? ⟨sb, 12, none⟩ = some (.bool s.mapped) := cell_of h.hs rfl
  have c13 : w.cell? ⟨sb, 13, none⟩ = some (.int .i64 s.made) := cell_of h.hs rfl
  have c14 : w.cell? ⟨sb, 14, none⟩ = some (.int .i64 s.passed) := cell_of h.hs rfl
  have fz := frozen_of h.hs
  have t0 := hf.t0
  have t1 := hf.t1
  have H : Hid (SRep s sb fb fresh w) := h
  have HF : Hid (Fits s) := hf
  have kb := keptI_bd (phase := s.phase) hf.s0 hf.s1
  have lb := laterI_bd hf.p0 hf.p1 (show 0 ≤ keptI s.safe s.phase by omega)
  have HL : Hid (0 ≤ laterI s.passed (keptI s.safe s.phase) ∧ laterI s.passed (keptI s.safe s.phase) ≤ 9223372036854775807) := lb
  clear h hf kb lb
  by_cases hmp : s.mapped = true
  · rw [hmp] at c12
    by_cases hh : heldI now (laterI s.passed (keptI s.safe s.phase)) = true
    · have e1 : Hid (againS s now = { s with mapped := false, made := now, passed := now, sends := wrap64 (s.sends + 1), phase := 0, due := laterI now s.timeout }) := by
        show _ = _; unfold againS; rw [hmp, hh]; rfl
      have HH : Hid (heldI now (laterI s.passed (keptI s.safe s.phase)) = true) := hh
      clear hmp hh
      go_enter Try.func29, Try.ntmps29
      go_wp2_with fail
      refine (keptUntil_any H.out HF.out).mono ?_
      rintro e w' ⟨rfl, hw⟩
      obtain rfl := hw.symm
      go_wp2_with fail
      refine (heldUp_any _ _ _ HL.out.1 HL.out.2).mono ?_
      rintro e w' ⟨rfl, hw⟩
      obtain rfl := hw.symm
      rw [HH.out]
      go_wp2_with fail
      refine (later_any _ _ _ n0 n1 t0 t1).mono ?_
      rintro e w' ⟨rfl, hw⟩
      obtain rfl := hw.symm
      go_wp2
      go_ret
      refine ⟨rfl, ?_, ?_⟩
      · rw [e1.out]; exact (((((H.out.set (s' := { s with mapped := false }) 12 (.bool false) rfl).set (s' := { s with mapped := false, made := now }) 13 (.int .i64 now) rfl).set (s' := { s with mapped := false, made := now, passed := now }) 14 (.int .i64 now) rfl).set (s' := { s with mapped := false, made := now, passed := now, sends := wrap64 (s.sends + 1) }) 9 (.int .i64 (wrap64 (s.sends + 1))) rfl).set (s' := { s with mapped := false, made := now, passed := now, sends := wrap64 (s.sends + 1), phase := 0 }) 7 (.int .u8 0) rfl).set (s' := { s with mapped := false, made := now, passed := now, sends := wrap64 (s.sends + 1), phase := 0, due := laterI now s.timeout }) 11 (.int .i64 (laterI now s.timeout)) rfl
      · exact mset (mset (mset (mset (mset (mset (Mod.refl (fun k => k = sb) w) 12 (.bool false)) 13 (.int .i64 now)) 14 (.int .i64 now)) 9 (.int .i64 (wrap64 (s.sends + 1)))) 7 (.int .u8 0)) 11 (.int .i64 (laterI now s.timeout))
    · have hh' : heldI now (laterI s.passed (keptI s.safe s.phase)) = false := by simpa using hh
      have e1 : Hid (againS s now = { s with passed := now, sends := wrap64 (s.sends + 1), phase := 0, due := laterI now s.timeout }) := by
        show _ = _; unfold againS; rw [hh']; cases s; simp_all
      have HH : Hid (heldI now (laterI s.passed (keptI s.safe s.phase)) = false) := hh'
      clear hmp hh hh'
      go_enter Try.func29, Try.ntmps29
      go_wp2_with fail
      refine (keptUntil_any H.out HF.out).mono ?_
      rintro e w' ⟨rfl, hw⟩
      obtain rfl := hw.symm
      go_wp2_with fail
      refine (heldUp_any _ _ _ HL.out.1 HL.out.2).mono ?_
      rintro e w' ⟨rfl, hw⟩
      obtain rfl := hw.symm
      rw [HH.out]
      go_wp2_with fail
      refine (later_any _ _ _ n0 n1 t0 t1).mono ?_
      rintro e w' ⟨rfl, hw⟩
      obtain rfl := hw.symm
      go_wp2
      go_ret
      refine ⟨rfl, ?_, ?_⟩
      · rw [e1.out]; exact (((H.out.set (s' := { s with passed := now }) 14 (.int .i64 now) rfl).set (s' := { s with passed := now, sends := wrap64 (s.sends + 1) }) 9 (.int .i64 (wrap64 (s.sends + 1))) rfl).set (s' := { s with passed := now, sends := wrap64 (s.sends + 1), phase := 0 }) 7 (.int .u8 0) rfl).set (s' := { s with passed := now, sends := wrap64 (s.sends + 1), phase := 0, due := laterI now s.timeout }) 11 (.int .i64 (laterI now s.timeout)) rfl
      · exact mset (mset (mset (mset (Mod.refl (fun k => k = sb) w) 14 (.int .i64 now)) 9 (.int .i64 (wrap64 (s.sends + 1)))) 7 (.int .u8 0)) 11 (.int .i64 (laterI now s.timeout))
  · have hmp' : s.mapped = false := by simpa using hmp
    rw [hmp'] at c12
    have e1 : Hid (againS s now = { s with made := now, passed := now, sends := wrap64 (s.sends + 1), phase := 0, due := laterI now s.timeout }) := by
      show _ = _; unfold againS; rw [hmp']; cases s; simp_all
    clear hmp hmp'
    go_enter Try.func29, Try.ntmps29
    go_wp2_with fail
    refine (later_any _ _ _ n0 n1 t0 t1).mono ?_
    rintro e w' ⟨rfl, hw⟩
    obtain rfl := hw.symm
    go_wp2
    go_ret
    refine ⟨rfl, ?_, ?_⟩
    · rw [e1.out]; exact ((((H.out.set (s' := { s with made := now }) 13 (.int .i64 now) rfl).set (s' := { s with made := now, passed := now }) 14 (.int .i64 now) rfl).set (s' := { s with made := now, passed := now, sends := wrap64 (s.sends + 1) }) 9 (.int .i64 (wrap64 (s.sends + 1))) rfl).set (s' := { s with made := now, passed := now, sends := wrap64 (s.sends + 1), phase := 0 }) 7 (.int .u8 0) rfl).set (s' := { s with made := now, passed := now, sends := wrap64 (s.sends + 1), phase := 0, due := laterI now s.timeout }) 11 (.int .i64 (laterI now s.timeout)) rfl
    · exact mset (mset (mset (mset (mset (Mod.refl (fun k => k = sb) w) 13 (.int .i64 now)) 14 (.int .i64 now)) 9 (.int .i64 (wrap64 (s.sends + 1)))) 7 (.int .u8 0)) 11 (.int .i64 (laterI now s.timeout))

end Go.Proofs.Qxb6616897a
