/- FnSearchArrangeTrialIdempotent: the walk. -/
import Derived.Test.Qxb6616897aEq
import Derived.Test.Qxb6616897aAfterT
set_option linter.unusedSimpArgs false
set_option linter.unusedVariables false
namespace Go.Proofs.Qxb6616897a
open Go.RowKit

/-- A block made since may turn. -/
theorem Mod.over {a b c : World} {sb : Nat} (h : Mod (fun _ => False) a b) (k : Mod (fun k => k = sb) b c) (hs : a.heap.size ≤ sb) : Mod (fun _ => False) a c :=
  ⟨k.os.trans h.os, k.tape.trans h.tape, k.output.trans h.output, Nat.le_trans h.size k.size, fun i hi _ => (k.keep i (Nat.lt_of_lt_of_le hi h.size) (by omega)).trans (h.keep i hi id)⟩
theorem after_at {s s1 : Sr} {fresh now : Int} (hs : trialS s fresh now = s1) (w : World) (hf : Fits s) (n0 : 0 ≤ now) (n1 : now ≤ 9223372036854775807) :
    Calls Try.prog 21 #[.agg (s.state fresh), .int .i64 now] w fun e w' => e = .returned (.agg s1.plain) ∧ Mod (fun _ => False) w w' := by
  subst hs; exact after_any s fresh now w hf n0 n1

set_option maxRecDepth 100000 in
set_option maxHeartbeats 2000000 in
theorem idem_skip (s : Sr) (fresh now : Int) (w : World) (h : ¬ (0 ≤ now ∧ 0 ≤ s.passed ∧ 0 ≤ s.timeout ∧ 0 ≤ s.safe ∧ s.safe ≤ 9223372036 ∧ s.phase ≤ 7)) :
    Calls Try.prog 6 #[.agg (s.state fresh), .int .i64 now] w fun e w' => e = .returned (.bool true) ∧ Mod (fun _ => False) w w' := by
  have H : Hid (¬ (0 ≤ now ∧ 0 ≤ s.passed ∧ 0 ≤ s.timeout ∧ 0 ≤ s.safe ∧ s.safe ≤ 9223372036 ∧ s.phase ≤ 7)) := h
  clear h
  unfold Sr.state
  go_enter Try.func6, Try.ntmps6
  go_wp2_with fail
  refine (fits_false s fresh now _ H.out).mono ?_
  rintro e w' ⟨rfl, m⟩
  have HM : Hid (Mod (fun _ => False) w w') := ((Mod.refl _ _).alloc _).trans m
  clear m
  go_wp2
  go_ret
  exact ⟨rfl, HM.out⟩

set_option maxRecDepth 100000 in
set_option maxHeartbeats 8000000 in
theorem idem_main (s : Sr) (fresh now : Int) (w : World) (hf : Fits s) (hp : s.phase ≤ 7) (n0 : 0 ≤ now) (n1 : now ≤ 9223372036854775807) :
    Calls Try.prog 6 #[.agg (s.state fresh), .int .i64 now] w fun e w' => e = .returned (.bool true) ∧ Mod (fun _ => False) w w' := by
  have HF : Hid (Fits s) := hf
  have HNOW : Hid (0 ≤ now ∧ now ≤ 9223372036854775807) := ⟨n0, n1⟩
  have HP : Hid (s.phase ≤ 7) := hp
  clear hf hp n0 n1
  unfold Sr.state
  go_enter Try.func6, Try.ntmps6
  go_wp2_with fail
  have ha := heap_new w (.cells #[.int .i64 s.safe, .int .i64 s.tooLong, .int .i64 s.tests, .int .i64 s.timeout, .int .i64 s.retries, .int .u32 fresh, .int .u8 s.phase, .int .u32 s.nonce, .int .i64 s.sends, .int .i64 s.arranged, .int .i64 s.due, .bool s.mapped, .int .i64 s.made, .int .i64 s.passed] 43)
  have ms := (Mod.refl (fun _ => False) w).alloc (.cells #[.int .i64 s.safe, .int .i64 s.tooLong, .int .i64 s.tests, .int .i64 s.timeout, .int .i64 s.retries, .int .u32 fresh, .int .u8 s.phase, .int .u32 s.nonce, .int .i64 s.sends, .int .i64 s.arranged, .int .i64 s.due, .bool s.mapped, .int .i64 s.made, .int .i64 s.passed] 43)
  generalize hN : w.heap.size = N at ha ⊢
  have HN : Hid (w.heap.size = N) := hN
  clear hN
  generalize w.alloc (.cells #[.int .i64 s.safe, .int .i64 s.tooLong, .int .i64 s.tests, .int .i64 s.timeout, .int .i64 s.retries, .int .u32 fresh, .int .u8 s.phase, .int .u32 s.nonce, .int .i64 s.sends, .int .i64 s.arranged, .int .i64 s.due, .bool s.mapped, .int .i64 s.made, .int .i64 s.passed] 43) = w0 at ha ms ⊢
  refine (fits_true s fresh now w0 HNOW.out.1 HF.out.p0 HF.out.t0 HF.out.s0 HF.out.s1 HP.out).mono ?_
  rintro e w1 ⟨rfl, m1⟩
  have HM : Hid (Mod (fun _ => False) w w1) := ms.trans m1
  have HA : Hid (w1.heap[N]? = some (.cells #[.int .i64 s.safe, .int .i64 s.tooLong, .int .i64 s.tests, .int .i64 s.timeout, .int .i64 s.retries, .int .u32 fresh, .int .u8 s.phase, .int .u32 s.nonce, .int .i64 s.sends, .int .i64 s.arranged, .int .i64 s.due, .bool s.mapped, .int .i64 s.made, .int .i64 s.passed] 43)) := m1.stays ha id
  clear ha ms m1
  have a0 := cell_of HA.out (k := 0) rfl
  have a1 := cell_of HA.out (k := 1) rfl
  have a2 := cell_of HA.out (k := 2) rfl
  have a3 := cell_of HA.out (k := 3) rfl
  have a4 := cell_of HA.out (k := 4) rfl
  have a5 := cell_of HA.out (k := 5) rfl
  have a6 := cell_of HA.out (k := 6) rfl
  have a7 := cell_of HA.out (k := 7) rfl
  have a8 := cell_of HA.out (k := 8) rfl
  have a9 := cell_of HA.out (k := 9) rfl
  have a10 := cell_of HA.out (k := 10) rfl
  have a11 := cell_of HA.out (k := 11) rfl
  have a12 := cell_of HA.out (k := 12) rfl
  have a13 := cell_of HA.out (k := 13) rfl
  go_upto_region 3 with fail
  go_region_held3 (fun w' => w'.cell? ⟨N, 0, none⟩ = some (.int .i64 s.safe) ∧ w'.cell? ⟨N, 1, none⟩ = some (.int .i64 s.tooLong) ∧ w'.cell? ⟨N, 2, none⟩ = some (.int .i64 s.tests) ∧ w'.cell? ⟨N, 3, none⟩ = some (.int .i64 s.timeout) ∧ w'.cell? ⟨N, 4, none⟩ = some (.int .i64 s.retries) ∧ w'.cell? ⟨N, 5, none⟩ = some (.int .u32 fresh) ∧ w'.cell? ⟨N, 6, none⟩ = some (.int .u8 s.phase) ∧ w'.cell? ⟨N, 7, none⟩ = some (.int .u32 s.nonce) ∧ w'.cell? ⟨N, 8, none⟩ = some (.int .i64 s.sends) ∧ w'.cell? ⟨N, 9, none⟩ = some (.int .i64 s.arranged) ∧ w'.cell? ⟨N, 10, none⟩ = some (.int .i64 s.due) ∧ w'.cell? ⟨N, 11, none⟩ = some (.bool s.mapped) ∧ w'.cell? ⟨N, 12, none⟩ = some (.int .i64 s.made) ∧ w'.cell? ⟨N, 13, none⟩ = some (.int .i64 s.passed))
    (first | exact ⟨cell_of (mB.stays (mA.stays (w := w1.drew) HA.out id) id) rfl, cell_of (mB.stays (mA.stays (w := w1.drew) HA.out id) id) rfl, cell_of (mB.stays (mA.stays (w := w1.drew) HA.out id) id) rfl, cell_of (mB.stays (mA.stays (w := w1.drew) HA.out id) id) rfl, cell_of (mB.stays (mA.stays (w := w1.drew) HA.out id) id) rfl, cell_of (mB.stays (mA.stays (w := w1.drew) HA.out id) id) rfl, cell_of (mB.stays (mA.stays (w := w1.drew) HA.out id) id) rfl, cell_of (mB.stays (mA.stays (w := w1.drew) HA.out id) id) rfl, cell_of (mB.stays (mA.stays (w := w1.drew) HA.out id) id) rfl, cell_of (mB.stays (mA.stays (w := w1.drew) HA.out id) id) rfl, cell_of (mB.stays (mA.stays (w := w1.drew) HA.out id) id) rfl, cell_of (mB.stays (mA.stays (w := w1.drew) HA.out id) id) rfl, cell_of (mB.stays (mA.stays (w := w1.drew) HA.out id) id) rfl, cell_of (mB.stays (mA.stays (w := w1.drew) HA.out id) id) rfl⟩ | exact ⟨cell_of (mA.stays (w := w1.drew) HA.out id) rfl, cell_of (mA.stays (w := w1.drew) HA.out id) rfl, cell_of (mA.stays (w := w1.drew) HA.out id) rfl, cell_of (mA.stays (w := w1.drew) HA.out id) rfl, cell_of (mA.stays (w := w1.drew) HA.out id) rfl, cell_of (mA.stays (w := w1.drew) HA.out id) rfl, cell_of (mA.stays (w := w1.drew) HA.out id) rfl, cell_of (mA.stays (w := w1.drew) HA.out id) rfl, cell_of (mA.stays (w := w1.drew) HA.out id) rfl, cell_of (mA.stays (w := w1.drew) HA.out id) rfl, cell_of (mA.stays (w := w1.drew) HA.out id) rfl, cell_of (mA.stays (w := w1.drew) HA.out id) rfl, cell_of (mA.stays (w := w1.drew) HA.out id) rfl, cell_of (mA.stays (w := w1.drew) HA.out id) rfl⟩ | go_keep)
    (first | (go_at_call 18; refine (searchOf_any s fresh _).mono ?_; rintro e wA ⟨rfl, mA⟩) | (go_at_call 17; refine (newSearch_any s fresh _).mono ?_; rintro e w2 ⟨sb, fb, rfl, rS, mB, bS⟩))
  have HS : Hid (SRep s sb fb fresh w2 ∧ w1.heap.size ≤ sb) := ⟨rS, by have := mA.size; exact Nat.le_trans this bS⟩
  have HA2 : Hid (w2.heap[N]? = some (.cells #[.int .i64 s.safe, .int .i64 s.tooLong, .int .i64 s.tests, .int .i64 s.timeout, .int .i64 s.retries, .int .u32 fresh, .int .u8 s.phase, .int .u32 s.nonce, .int .i64 s.sends, .int .i64 s.arranged, .int .i64 s.due, .bool s.mapped, .int .i64 s.made, .int .i64 s.passed] 43)) := mB.stays (mA.stays (w := w1.drew) HA.out id) id
  have HM2 : Hid (Mod (fun _ => False) w w2) := (HM.out.drew.trans mA).trans mB
  clear rS mA mB bS a0 a1 a2 a3 a4 a5 a6 a7 a8 a9 a10 a11 a12 a13
  have HNsb : Hid (N ≠ sb ∧ w.heap.size ≤ sb) := by
    have h1 := heap_lt HA.out; have h2 := HS.out.2; have h3 := HM.out.size
    exact ⟨by omega, by omega⟩
  generalize hs1 : trialS s fresh now = s1
  have HE : Hid (trialS s fresh now = s1) := hs1
  have HF1 : Hid (Fits s1) := by have := fits_trial HF.out fresh now HNOW.out.1 HNOW.out.2; rw [hs1] at this; exact this
  have HT : Hid (trialS s1 fresh now = s1) := by have := trial_twice HF.out fresh now HNOW.out.1 HNOW.out.2; rw [hs1] at this; exact this
  clear hs1
  go_wp2_with fail
  refine (zztrial_any HS.out.1 HF.out now HNOW.out.1 HNOW.out.2).mono ?_
  rintro e w3 ⟨rfl, r3, m3⟩
  rw [HE.out] at r3
  have HS3 : Hid (SRep s1 sb fb fresh w3) := r3
  have HA3 : Hid (w3.heap[N]? = some (.cells #[.int .i64 s.safe, .int .i64 s.tooLong, .int .i64 s.tests, .int .i64 s.timeout, .int .i64 s.retries, .int .u32 fresh, .int .u8 s.phase, .int .u32 s.nonce, .int .i64 s.sends, .int .i64 s.arranged, .int .i64 s.due, .bool s.mapped, .int .i64 s.made, .int .i64 s.passed] 43)) := m3.stays HA2.out HNsb.out.1
  have HM3 : Hid (Mod (fun _ => False) w w3) := Mod.over HM2.out m3 HNsb.out.2
  clear r3 m3
  go_wp2_with fail
  refine (fields_any HS3.out).mono ?_
  unfold Sr.plain
  rintro e w4 ⟨rfl, m⟩
  have HS4 : Hid (SRep s1 sb fb fresh w4) := ⟨m.stays HS3.out.hs id, m.stays HS3.out.hf id⟩
  have HA4 : Hid (w4.heap[N]? = some (.cells #[.int .i64 s.safe, .int .i64 s.tooLong, .int .i64 s.tests, .int .i64 s.timeout, .int .i64 s.retries, .int .u32 fresh, .int .u8 s.phase, .int .u32 s.nonce, .int .i64 s.sends, .int .i64 s.arranged, .int .i64 s.due, .bool s.mapped, .int .i64 s.made, .int .i64 s.passed] 43)) := m.stays HA3.out id
  have HM4 : Hid (Mod (fun _ => False) w w4) := HM3.out.trans m
  clear m
  go_upto_region 6 with fail
  have HB5 : Hid ((w4.alloc (.cells #[.int .i64 s1.safe, .int .i64 s1.tooLong, .int .i64 s1.tests, .int .i64 s1.timeout, .int .i64 s1.retries, .int .u8 s1.phase, .int .u32 s1.nonce, .int .i64 s1.sends, .int .i64 s1.arranged, .int .i64 s1.due, .bool s1.mapped, .int .i64 s1.made, .int .i64 s1.passed] 48)).heap[w4.heap.size]? = some (.cells #[.int .i64 s1.safe, .int .i64 s1.tooLong, .int .i64 s1.tests, .int .i64 s1.timeout, .int .i64 s1.retries, .int .u8 s1.phase, .int .u32 s1.nonce, .int .i64 s1.sends, .int .i64 s1.arranged, .int .i64 s1.due, .bool s1.mapped, .int .i64 s1.made, .int .i64 s1.passed] 48)) := heap_new w4 _
  have HS5 : Hid (SRep s1 sb fb fresh (w4.alloc (.cells #[.int .i64 s1.safe, .int .i64 s1.tooLong, .int .i64 s1.tests, .int .i64 s1.timeout, .int .i64 s1.retries, .int .u8 s1.phase, .int .u32 s1.nonce, .int .i64 s1.sends, .int .i64 s1.arranged, .int .i64 s1.due, .bool s1.mapped, .int .i64 s1.made, .int .i64 s1.passed] 48))) := ⟨heap_old HS4.out.hs _, heap_old HS4.out.hf _⟩
  have HA5 : Hid ((w4.alloc (.cells #[.int .i64 s1.safe, .int .i64 s1.tooLong, .int .i64 s1.tests, .int .i64 s1.timeout, .int .i64 s1.retries, .int .u8 s1.phase, .int .u32 s1.nonce, .int .i64 s1.sends, .int .i64 s1.arranged, .int .i64 s1.due, .bool s1.mapped, .int .i64 s1.made, .int .i64 s1.passed] 48)).heap[N]? = some (.cells #[.int .i64 s.safe, .int .i64 s.tooLong, .int .i64 s.tests, .int .i64 s.timeout, .int .i64 s.retries, .int .u32 fresh, .int .u8 s.phase, .int .u32 s.nonce, .int .i64 s.sends, .int .i64 s.arranged, .int .i64 s.due, .bool s.mapped, .int .i64 s.made, .int .i64 s.passed] 43)) := heap_old HA4.out _
  have HM5 : Hid (Mod (fun _ => False) w (w4.alloc (.cells #[.int .i64 s1.safe, .int .i64 s1.tooLong, .int .i64 s1.tests, .int .i64 s1.timeout, .int .i64 s1.retries, .int .u8 s1.phase, .int .u32 s1.nonce, .int .i64 s1.sends, .int .i64 s1.arranged, .int .i64 s1.due, .bool s1.mapped, .int .i64 s1.made, .int .i64 s1.passed] 48))) := HM4.out.alloc _
  have HN1 : Hid (w4.heap.size ≠ sb) := by have := heap_lt HS4.out.hs; show _ ≠ _; omega
  generalize w4.alloc (.cells #[.int .i64 s1.safe, .int .i64 s1.tooLong, .int .i64 s1.tests, .int .i64 s1.timeout, .int .i64 s1.retries, .int .u8 s1.phase, .int .u32 s1.nonce, .int .i64 s1.sends, .int .i64 s1.arranged, .int .i64 s1.due, .bool s1.mapped, .int .i64 s1.made, .int .i64 s1.passed] 48) = w5 at HB5 HS5 HA5 HM5 ⊢
  generalize w4.heap.size = N1 at HB5 HN1 ⊢
  go_wp2_with fail
  refine (zztrial_any HS5.out HF1.out now HNOW.out.1 HNOW.out.2).mono ?_
  rintro e w6 ⟨rfl, r6, m6⟩
  rw [HT.out] at r6
  have HS6 : Hid (SRep s1 sb fb fresh w6) := r6
  have HA6 : Hid (w6.heap[N]? = some (.cells #[.int .i64 s.safe, .int .i64 s.tooLong, .int .i64 s.tests, .int .i64 s.timeout, .int .i64 s.retries, .int .u32 fresh, .int .u8 s.phase, .int .u32 s.nonce, .int .i64 s.sends, .int .i64 s.arranged, .int .i64 s.due, .bool s.mapped, .int .i64 s.made, .int .i64 s.passed] 43)) := m6.stays HA5.out HNsb.out.1
  have HB6 : Hid (w6.heap[N1]? = some (.cells #[.int .i64 s1.safe, .int .i64 s1.tooLong, .int .i64 s1.tests, .int .i64 s1.timeout, .int .i64 s1.retries, .int .u8 s1.phase, .int .u32 s1.nonce, .int .i64 s1.sends, .int .i64 s1.arranged, .int .i64 s1.due, .bool s1.mapped, .int .i64 s1.made, .int .i64 s1.passed] 48)) := m6.stays HB5.out HN1.out
  have HM6 : Hid (Mod (fun _ => False) w w6) := Mod.over HM5.out m6 HNsb.out.2
  clear r6 m6
  go_wp2_with fail
  refine (fields_any HS6.out).mono ?_
  unfold Sr.plain
  rintro e w7 ⟨rfl, m⟩
  have HA7 : Hid (w7.heap[N]? = some (.cells #[.int .i64 s.safe, .int .i64 s.tooLong, .int .i64 s.tests, .int .i64 s.timeout, .int .i64 s.retries, .int .u32 fresh, .int .u8 s.phase, .int .u32 s.nonce, .int .i64 s.sends, .int .i64 s.arranged, .int .i64 s.due, .bool s.mapped, .int .i64 s.made, .int .i64 s.passed] 43)) := m.stays HA6.out id
  have HB7 : Hid (w7.heap[N1]? = some (.cells #[.int .i64 s1.safe, .int .i64 s1.tooLong, .int .i64 s1.tests, .int .i64 s1.timeout, .int .i64 s1.retries, .int .u8 s1.phase, .int .u32 s1.nonce, .int .i64 s1.sends, .int .i64 s1.arranged, .int .i64 s1.due, .bool s1.mapped, .int .i64 s1.made, .int .i64 s1.passed] 48)) := m.stays HB6.out id
  have HM7 : Hid (Mod (fun _ => False) w w7) := HM6.out.trans m
  clear m
  go_upto_region 8 with fail
  have HC8 : Hid ((w7.alloc (.cells #[.int .i64 s1.safe, .int .i64 s1.tooLong, .int .i64 s1.tests, .int .i64 s1.timeout, .int .i64 s1.retries, .int .u8 s1.phase, .int .u32 s1.nonce, .int .i64 s1.sends, .int .i64 s1.arranged, .int .i64 s1.due, .bool s1.mapped, .int .i64 s1.made, .int .i64 s1.passed] 48)).heap[w7.heap.size]? = some (.cells #[.int .i64 s1.safe, .int .i64 s1.tooLong, .int .i64 s1.tests, .int .i64 s1.timeout, .int .i64 s1.retries, .int .u8 s1.phase, .int .u32 s1.nonce, .int .i64 s1.sends, .int .i64 s1.arranged, .int .i64 s1.due, .bool s1.mapped, .int .i64 s1.made, .int .i64 s1.passed] 48)) := heap_new w7 _
  have HB8 : Hid ((w7.alloc (.cells #[.int .i64 s1.safe, .int .i64 s1.tooLong, .int .i64 s1.tests, .int .i64 s1.timeout, .int .i64 s1.retries, .int .u8 s1.phase, .int .u32 s1.nonce, .int .i64 s1.sends, .int .i64 s1.arranged, .int .i64 s1.due, .bool s1.mapped, .int .i64 s1.made, .int .i64 s1.passed] 48)).heap[N1]? = some (.cells #[.int .i64 s1.safe, .int .i64 s1.tooLong, .int .i64 s1.tests, .int .i64 s1.timeout, .int .i64 s1.retries, .int .u8 s1.phase, .int .u32 s1.nonce, .int .i64 s1.sends, .int .i64 s1.arranged, .int .i64 s1.due, .bool s1.mapped, .int .i64 s1.made, .int .i64 s1.passed] 48)) := heap_old HB7.out _
  have HA8 : Hid ((w7.alloc (.cells #[.int .i64 s1.safe, .int .i64 s1.tooLong, .int .i64 s1.tests, .int .i64 s1.timeout, .int .i64 s1.retries, .int .u8 s1.phase, .int .u32 s1.nonce, .int .i64 s1.sends, .int .i64 s1.arranged, .int .i64 s1.due, .bool s1.mapped, .int .i64 s1.made, .int .i64 s1.passed] 48)).heap[N]? = some (.cells #[.int .i64 s.safe, .int .i64 s.tooLong, .int .i64 s.tests, .int .i64 s.timeout, .int .i64 s.retries, .int .u32 fresh, .int .u8 s.phase, .int .u32 s.nonce, .int .i64 s.sends, .int .i64 s.arranged, .int .i64 s.due, .bool s.mapped, .int .i64 s.made, .int .i64 s.passed] 43)) := heap_old HA7.out _
  have HM8 : Hid (Mod (fun _ => False) w (w7.alloc (.cells #[.int .i64 s1.safe, .int .i64 s1.tooLong, .int .i64 s1.tests, .int .i64 s1.timeout, .int .i64 s1.retries, .int .u8 s1.phase, .int .u32 s1.nonce, .int .i64 s1.sends, .int .i64 s1.arranged, .int .i64 s1.due, .bool s1.mapped, .int .i64 s1.made, .int .i64 s1.passed] 48))) := HM7.out.alloc _
  clear HA HA2 HA3 HA4 HA5 HA6 HA7 HB5 HB6 HB7 HS HS3 HS4 HS5 HS6 HM HM2 HM3 HM4 HM5 HM6 HM7 HNsb HN1 HN
  generalize w7.alloc (.cells #[.int .i64 s1.safe, .int .i64 s1.tooLong, .int .i64 s1.tests, .int .i64 s1.timeout, .int .i64 s1.retries, .int .u8 s1.phase, .int .u32 s1.nonce, .int .i64 s1.sends, .int .i64 s1.arranged, .int .i64 s1.due, .bool s1.mapped, .int .i64 s1.made, .int .i64 s1.passed] 48) = w8 at HC8 HB8 HA8 HM8 ⊢
  generalize w7.heap.size = N2 at HC8 ⊢
  have e48 : ∀ w, (binOp .eql 48 (.agg #[.int .i64 s1.safe, .int .i64 s1.tooLong, .int .i64 s1.tests, .int .i64 s1.timeout, .int .i64 s1.retries, .int .u8 s1.phase, .int .u32 s1.nonce, .int .i64 s1.sends, .int .i64 s1.arranged, .int .i64 s1.due, .bool s1.mapped, .int .i64 s1.made, .int .i64 s1.passed]) (.agg #[.int .i64 s1.safe, .int .i64 s1.tooLong, .int .i64 s1.tests, .int .i64 s1.timeout, .int .i64 s1.retries, .int .u8 s1.phase, .int .u32 s1.nonce, .int .i64 s1.sends, .int .i64 s1.arranged, .int .i64 s1.due, .bool s1.mapped, .int .i64 s1.made, .int .i64 s1.passed])).run Try.prog w = .ok (.bool true) w := fun w => eq48 s1 w
  have a0 := cell_of HA8.out (k := 0) rfl
  have a1 := cell_of HA8.out (k := 1) rfl
  have a2 := cell_of HA8.out (k := 2) rfl
  have a3 := cell_of HA8.out (k := 3) rfl
  have a4 := cell_of HA8.out (k := 4) rfl
  have a5 := cell_of HA8.out (k := 5) rfl
  have a6 := cell_of HA8.out (k := 6) rfl
  have a7 := cell_of HA8.out (k := 7) rfl
  have a8 := cell_of HA8.out (k := 8) rfl
  have a9 := cell_of HA8.out (k := 9) rfl
  have a10 := cell_of HA8.out (k := 10) rfl
  have a11 := cell_of HA8.out (k := 11) rfl
  have a12 := cell_of HA8.out (k := 12) rfl
  have a13 := cell_of HA8.out (k := 13) rfl
  have b0 := cell_of HB8.out (k := 0) rfl
  have b1 := cell_of HB8.out (k := 1) rfl
  have b2 := cell_of HB8.out (k := 2) rfl
  have b3 := cell_of HB8.out (k := 3) rfl
  have b4 := cell_of HB8.out (k := 4) rfl
  have b5 := cell_of HB8.out (k := 5) rfl
  have b6 := cell_of HB8.out (k := 6) rfl
  have b7 := cell_of HB8.out (k := 7) rfl
  have b8 := cell_of HB8.out (k := 8) rfl
  have b9 := cell_of HB8.out (k := 9) rfl
  have b10 := cell_of HB8.out (k := 10) rfl
  have b11 := cell_of HB8.out (k := 11) rfl
  have b12 := cell_of HB8.out (k := 12) rfl
  have c0 := cell_of HC8.out (k := 0) rfl
  have c1 := cell_of HC8.out (k := 1) rfl
  have c2 := cell_of HC8.out (k := 2) rfl
  have c3 := cell_of HC8.out (k := 3) rfl
  have c4 := cell_of HC8.out (k := 4) rfl
  have c5 := cell_of HC8.out (k := 5) rfl
  have c6 := cell_of HC8.out (k := 6) rfl
  have c7 := cell_of HC8.out (k := 7) rfl
  have c8 := cell_of HC8.out (k := 8) rfl
  have c9 := cell_of HC8.out (k := 9) rfl
  have c10 := cell_of HC8.out (k := 10) rfl
  have c11 := cell_of HC8.out (k := 11) rfl
  have c12 := cell_of HC8.out (k := 12) rfl
  go_region_held3 (fun w' => w'.cell? ⟨N, 0, none⟩ = some (.int .i64 s.safe) ∧ w'.cell? ⟨N, 1, none⟩ = some (.int .i64 s.tooLong) ∧ w'.cell? ⟨N, 2, none⟩ = some (.int .i64 s.tests) ∧ w'.cell? ⟨N, 3, none⟩ = some (.int .i64 s.timeout) ∧ w'.cell? ⟨N, 4, none⟩ = some (.int .i64 s.retries) ∧ w'.cell? ⟨N, 5, none⟩ = some (.int .u32 fresh) ∧ w'.cell? ⟨N, 6, none⟩ = some (.int .u8 s.phase) ∧ w'.cell? ⟨N, 7, none⟩ = some (.int .u32 s.nonce) ∧ w'.cell? ⟨N, 8, none⟩ = some (.int .i64 s.sends) ∧ w'.cell? ⟨N, 9, none⟩ = some (.int .i64 s.arranged) ∧ w'.cell? ⟨N, 10, none⟩ = some (.int .i64 s.due) ∧ w'.cell? ⟨N, 11, none⟩ = some (.bool s.mapped) ∧ w'.cell? ⟨N, 12, none⟩ = some (.int .i64 s.made) ∧ w'.cell? ⟨N, 13, none⟩ = some (.int .i64 s.passed) ∧ w'.cell? ⟨N1, 0, none⟩ = some (.int .i64 s1.safe) ∧ w'.cell? ⟨N1, 1, none⟩ = some (.int .i64 s1.tooLong) ∧ w'.cell? ⟨N1, 2, none⟩ = some (.int .i64 s1.tests) ∧ w'.cell? ⟨N1, 3, none⟩ = some (.int .i64 s1.timeout) ∧ w'.cell? ⟨N1, 4, none⟩ = some (.int .i64 s1.retries) ∧ w'.cell? ⟨N1, 5, none⟩ = some (.int .u8 s1.phase) ∧ w'.cell? ⟨N1, 6, none⟩ = some (.int .u32 s1.nonce) ∧ w'.cell? ⟨N1, 7, none⟩ = some (.int .i64 s1.sends) ∧ w'.cell? ⟨N1, 8, none⟩ = some (.int .i64 s1.arranged) ∧ w'.cell? ⟨N1, 9, none⟩ = some (.int .i64 s1.due) ∧ w'.cell? ⟨N1, 10, none⟩ = some (.bool s1.mapped) ∧ w'.cell? ⟨N1, 11, none⟩ = some (.int .i64 s1.made) ∧ w'.cell? ⟨N1, 12, none⟩ = some (.int .i64 s1.passed) ∧ w'.cell? ⟨N2, 0, none⟩ = some (.int .i64 s1.safe) ∧ w'.cell? ⟨N2, 1, none⟩ = some (.int .i64 s1.tooLong) ∧ w'.cell? ⟨N2, 2, none⟩ = some (.int .i64 s1.tests) ∧ w'.cell? ⟨N2, 3, none⟩ = some (.int .i64 s1.timeout) ∧ w'.cell? ⟨N2, 4, none⟩ = some (.int .i64 s1.retries) ∧ w'.cell? ⟨N2, 5, none⟩ = some (.int .u8 s1.phase) ∧ w'.cell? ⟨N2, 6, none⟩ = some (.int .u32 s1.nonce) ∧ w'.cell? ⟨N2, 7, none⟩ = some (.int .i64 s1.sends) ∧ w'.cell? ⟨N2, 8, none⟩ = some (.int .i64 s1.arranged) ∧ w'.cell? ⟨N2, 9, none⟩ = some (.int .i64 s1.due) ∧ w'.cell? ⟨N2, 10, none⟩ = some (.bool s1.mapped) ∧ w'.cell? ⟨N2, 11, none⟩ = some (.int .i64 s1.made) ∧ w'.cell? ⟨N2, 12, none⟩ = some (.int .i64 s1.passed))
    (first | exact ⟨cell_of (mC.stays (w := w8.drew) HA8.out id) rfl, cell_of (mC.stays (w := w8.drew) HA8.out id) rfl, cell_of (mC.stays (w := w8.drew) HA8.out id) rfl, cell_of (mC.stays (w := w8.drew) HA8.out id) rfl, cell_of (mC.stays (w := w8.drew) HA8.out id) rfl, cell_of (mC.stays (w := w8.drew) HA8.out id) rfl, cell_of (mC.stays (w := w8.drew) HA8.out id) rfl, cell_of (mC.stays (w := w8.drew) HA8.out id) rfl, cell_of (mC.stays (w := w8.drew) HA8.out id) rfl, cell_of (mC.stays (w := w8.drew) HA8.out id) rfl, cell_of (mC.stays (w := w8.drew) HA8.out id) rfl, cell_of (mC.stays (w := w8.drew) HA8.out id) rfl, cell_of (mC.stays (w := w8.drew) HA8.out id) rfl, cell_of (mC.stays (w := w8.drew) HA8.out id) rfl, cell_of (mC.stays (w := w8.drew) HB8.out id) rfl, cell_of (mC.stays (w := w8.drew) HB8.out id) rfl, cell_of (mC.stays (w := w8.drew) HB8.out id) rfl, cell_of (mC.stays (w := w8.drew) HB8.out id) rfl, cell_of (mC.stays (w := w8.drew) HB8.out id) rfl, cell_of (mC.stays (w := w8.drew) HB8.out id) rfl, cell_of (mC.stays (w := w8.drew) HB8.out id) rfl, cell_of (mC.stays (w := w8.drew) HB8.out id) rfl, cell_of (mC.stays (w := w8.drew) HB8.out id) rfl, cell_of (mC.stays (w := w8.drew) HB8.out id) rfl, cell_of (mC.stays (w := w8.drew) HB8.out id) rfl, cell_of (mC.stays (w := w8.drew) HB8.out id) rfl, cell_of (mC.stays (w := w8.drew) HB8.out id) rfl, cell_of (mC.stays (w := w8.drew) HC8.out id) rfl, cell_of (mC.stays (w := w8.drew) HC8.out id) rfl, cell_of (mC.stays (w := w8.drew) HC8.out id) rfl, cell_of (mC.stays (w := w8.drew) HC8.out id) rfl, cell_of (mC.stays (w := w8.drew) HC8.out id) rfl, cell_of (mC.stays (w := w8.drew) HC8.out id) rfl, cell_of (mC.stays (w := w8.drew) HC8.out id) rfl, cell_of (mC.stays (w := w8.drew) HC8.out id) rfl, cell_of (mC.stays (w := w8.drew) HC8.out id) rfl, cell_of (mC.stays (w := w8.drew) HC8.out id) rfl, cell_of (mC.stays (w := w8.drew) HC8.out id) rfl, cell_of (mC.stays (w := w8.drew) HC8.out id) rfl, cell_of (mC.stays (w := w8.drew) HC8.out id) rfl⟩ | go_keep)
    (first | (go_at_call 21; refine (after_at HE.out _ HF.out HNOW.out.1 HNOW.out.2).mono ?_; unfold Sr.plain; rintro e wC ⟨rfl, mC⟩))
  go_wp2
  go_ret
  exact ⟨rfl, HM8.out.drew.trans mC⟩

theorem idem_walk (s : Sr) (fresh now : Int) (w : World) (p1 : s.passed ≤ 9223372036854775807) (t1 : s.timeout ≤ 9223372036854775807) (n1 : now ≤ 9223372036854775807) :
    Calls Try.prog 6 #[.agg (s.state fresh), .int .i64 now] w fun e w' => e = .returned (.bool true) ∧ Below w.heap.size w w' := by
  by_cases h : 0 ≤ now ∧ 0 ≤ s.passed ∧ 0 ≤ s.timeout ∧ 0 ≤ s.safe ∧ s.safe ≤ 9223372036 ∧ s.phase ≤ 7
  · obtain ⟨h1, h2, h3, h4, h5, h6⟩ := h
    refine (idem_main s fresh now w ⟨h4, h5, h2, p1, h3, t1⟩ h6 h1 n1).mono ?_
    rintro e w' ⟨rfl, m⟩
    exact ⟨rfl, m.still_below⟩
  · refine (idem_skip s fresh now w h).mono ?_
    rintro e w' ⟨rfl, m⟩
    exact ⟨rfl, m.still_below⟩

end Go.Proofs.Qxb6616897a
