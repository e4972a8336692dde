/- FnSearchArrangeTrialAgreesWithArrangeAgain: the walk. -/
import Derived.Test.Qxb6616897aLawIdem
set_option linter.unusedSimpArgs false
set_option linter.unusedVariables false
namespace Go.Proofs.Qxb6616897a
open Go.RowKit

theorem SRep.apart {s : Sr} {sb fb : Nat} {fresh : Int} {w : World} (h : SRep s sb fb fresh w) {x : Nat} {c : Array Value} (k : w.heap[x]? = some (.cells c 65)) : fb ≠ x := by
  intro e; subst e; rw [h.hf] at k; simp at k
theorem SRep.kept {s : Sr} {sb fb x : Nat} {fresh : Int} {w w' : World} (h : SRep s sb fb fresh w) (m : Mod (fun k => k = x) w w') (h1 : sb ≠ x) (h2 : fb ≠ x) : SRep s sb fb fresh w' := ⟨m.stays h.hs h1, m.stays h.hf h2⟩
theorem SRep.still {s : Sr} {sb fb : Nat} {fresh : Int} {w w' : World} (h : SRep s sb fb fresh w) (m : Mod (fun _ => False) w w') : SRep s sb fb fresh w' := ⟨m.stays h.hs id, m.stays h.hf id⟩
theorem SRep.alloc {s : Sr} {sb fb : Nat} {fresh : Int} {w : World} (h : SRep s sb fb fresh w) (o : Obj) : SRep s sb fb fresh (w.alloc o) := ⟨heap_old h.hs _, heap_old h.hf _⟩

set_option maxRecDepth 100000 in
set_option maxHeartbeats 2000000 in
theorem agree_skip (s : Sr) (fresh now : Int) (w : World) (h : ¬ (0 ≤ now ∧ 0 ≤ s.passed ∧ 0 ≤ s.timeout ∧ 0 ≤ s.safe ∧ s.safe ≤ 9223372036 ∧ s.phase ≤ 7)) :
    Calls Try.prog 7 #[.agg (s.state fresh), .int .i64 now] w fun e w' => e = .returned (.bool true) ∧ Mod (fun _ => False) w w' := by
  have H : Hid (¬ (0 ≤ now ∧ 0 ≤ s.passed ∧ 0 ≤ s.timeout ∧ 0 ≤ s.safe ∧ s.safe ≤ 9223372036 ∧ s.phase ≤ 7)) := h
  clear h
  unfold Sr.state
  go_enter Try.func7, Try.ntmps7
  go_wp2_with fail
  refine (fits_false s fresh now _ H.out).mono ?_
  rintro e w' ⟨rfl, m⟩
  have HM : Hid (Mod (fun _ => False) w w') := ((Mod.refl _ _).alloc _).trans m
  clear m
  go_wp2
  go_ret
  exact ⟨rfl, HM.out⟩

set_option maxRecDepth 100000 in
set_option maxHeartbeats 8000000 in
theorem agree_main (s : Sr) (fresh now : Int) (w : World) (hf : Fits s) (hp : s.phase ≤ 7) (n0 : 0 ≤ now) (n1 : now ≤ 9223372036854775807) :
    Calls Try.prog 7 #[.agg (s.state fresh), .int .i64 now] w fun e w' => e = .returned (.bool true) ∧ Mod (fun _ => False) w w' := by
  have HF : Hid (Fits s) := hf
  have HNOW : Hid (0 ≤ now ∧ now ≤ 9223372036854775807) := ⟨n0, n1⟩
  have HP : Hid (s.phase ≤ 7) := hp
  clear hf hp n0 n1
  unfold Sr.state
  go_enter Try.func7, Try.ntmps7
  go_wp2_with fail
  have ha := heap_new w (.cells #[.int .i64 s.safe, .int .i64 s.tooLong, .int .i64 s.tests, .int .i64 s.timeout, .int .i64 s.retries, .int .u32 fresh, .int .u8 s.phase, .int .u32 s.nonce, .int .i64 s.sends, .int .i64 s.arranged, .int .i64 s.due, .bool s.mapped, .int .i64 s.made, .int .i64 s.passed] 43)
  have ms := (Mod.refl (fun _ => False) w).alloc (.cells #[.int .i64 s.safe, .int .i64 s.tooLong, .int .i64 s.tests, .int .i64 s.timeout, .int .i64 s.retries, .int .u32 fresh, .int .u8 s.phase, .int .u32 s.nonce, .int .i64 s.sends, .int .i64 s.arranged, .int .i64 s.due, .bool s.mapped, .int .i64 s.made, .int .i64 s.passed] 43)
  generalize hN : w.heap.size = N at ha ⊢
  have HN : Hid (w.heap.size = N) := hN
  clear hN
  generalize w.alloc (.cells #[.int .i64 s.safe, .int .i64 s.tooLong, .int .i64 s.tests, .int .i64 s.timeout, .int .i64 s.retries, .int .u32 fresh, .int .u8 s.phase, .int .u32 s.nonce, .int .i64 s.sends, .int .i64 s.arranged, .int .i64 s.due, .bool s.mapped, .int .i64 s.made, .int .i64 s.passed] 43) = w0 at ha ms ⊢
  refine (fits_true s fresh now w0 HNOW.out.1 HF.out.p0 HF.out.t0 HF.out.s0 HF.out.s1 HP.out).mono ?_
  rintro e w1 ⟨rfl, m1⟩
  have HM : Hid (Mod (fun _ => False) w w1) := ms.trans m1
  have HA : Hid (w1.heap[N]? = some (.cells #[.int .i64 s.safe, .int .i64 s.tooLong, .int .i64 s.tests, .int .i64 s.timeout, .int .i64 s.retries, .int .u32 fresh, .int .u8 s.phase, .int .u32 s.nonce, .int .i64 s.sends, .int .i64 s.arranged, .int .i64 s.due, .bool s.mapped, .int .i64 s.made, .int .i64 s.passed] 43)) := m1.stays ha id
  clear ha ms m1
  have a0 := cell_of HA.out (k := 0) rfl
  have a1 := cell_of HA.out (k := 1) rfl
  have a2 := cell_of HA.out (k := 2) rfl
  have a3 := cell_of HA.out (k := 3) rfl
  have a4 := cell_of HA.out (k := 4) rfl
  have a5 := cell_of HA.out (k := 5) rfl
  have a6 := cell_of HA.out (k := 6) rfl
  have a7 := cell_of HA.out (k := 7) rfl
  have a8 := cell_of HA.out (k := 8) rfl
  have a9 := cell_of HA.out (k := 9) rfl
  have a10 := cell_of HA.out (k := 10) rfl
  have a11 := cell_of HA.out (k := 11) rfl
  have a12 := cell_of HA.out (k := 12) rfl
  have a13 := cell_of HA.out (k := 13) rfl
  go_upto_region 3 with fail
  go_region_held3 (fun w' => w'.cell? ⟨N, 0, none⟩ = some (.int .i64 s.safe) ∧ w'.cell? ⟨N, 1, none⟩ = some (.int .i64 s.tooLong) ∧ w'.cell? ⟨N, 2, none⟩ = some (.int .i64 s.tests) ∧ w'.cell? ⟨N, 3, none⟩ = some (.int .i64 s.timeout) ∧ w'.cell? ⟨N, 4, none⟩ = some (.int .i64 s.retries) ∧ w'.cell? ⟨N, 5, none⟩ = some (.int .u32 fresh) ∧ w'.cell? ⟨N, 6, none⟩ = some (.int .u8 s.phase) ∧ w'.cell? ⟨N, 7, none⟩ = some (.int .u32 s.nonce) ∧ w'.cell? ⟨N, 8, none⟩ = some (.int .i64 s.sends) ∧ w'.cell? ⟨N, 9, none⟩ = some (.int .i64 s.arranged) ∧ w'.cell? ⟨N, 10, none⟩ = some (.int .i64 s.due) ∧ w'.cell? ⟨N, 11, none⟩ = some (.bool s.mapped) ∧ w'.cell? ⟨N, 12, none⟩ = some (.int .i64 s.made) ∧ w'.cell? ⟨N, 13, none⟩ = some (.int .i64 s.passed))
    (first | exact ⟨cell_of (mB.stays (mA.stays (w := w1.drew) HA.out id) id) rfl, cell_of (mB.stays (mA.stays (w := w1.drew) HA.out id) id) rfl, cell_of (mB.stays (mA.stays (w := w1.drew) HA.out id) id) rfl, cell_of (mB.stays (mA.stays (w := w1.drew) HA.out id) id) rfl, cell_of (mB.stays (mA.stays (w := w1.drew) HA.out id) id) rfl, cell_of (mB.stays (mA.stays (w := w1.drew) HA.out id) id) rfl, cell_of (mB.stays (mA.stays (w := w1.drew) HA.out id) id) rfl, cell_of (mB.stays (mA.stays (w := w1.drew) HA.out id) id) rfl, cell_of (mB.stays (mA.stays (w := w1.drew) HA.out id) id) rfl, cell_of (mB.stays (mA.stays (w := w1.drew) HA.out id) id) rfl, cell_of (mB.stays (mA.stays (w := w1.drew) HA.out id) id) rfl, cell_of (mB.stays (mA.stays (w := w1.drew) HA.out id) id) rfl, cell_of (mB.stays (mA.stays (w := w1.drew) HA.out id) id) rfl, cell_of (mB.stays (mA.stays (w := w1.drew) HA.out id) id) rfl⟩ | exact ⟨cell_of (mA.stays (w := w1.drew) HA.out id) rfl, cell_of (mA.stays (w := w1.drew) HA.out id) rfl, cell_of (mA.stays (w := w1.drew) HA.out id) rfl, cell_of (mA.stays (w := w1.drew) HA.out id) rfl, cell_of (mA.stays (w := w1.drew) HA.out id) rfl, cell_of (mA.stays (w := w1.drew) HA.out id) rfl, cell_of (mA.stays (w := w1.drew) HA.out id) rfl, cell_of (mA.stays (w := w1.drew) HA.out id) rfl, cell_of (mA.stays (w := w1.drew) HA.out id) rfl, cell_of (mA.stays (w := w1.drew) HA.out id) rfl, cell_of (mA.stays (w := w1.drew) HA.out id) rfl, cell_of (mA.stays (w := w1.drew) HA.out id) rfl, cell_of (mA.stays (w := w1.drew) HA.out id) rfl, cell_of (mA.stays (w := w1.drew) HA.out id) rfl⟩ | go_keep)
    (first | (go_at_call 18; refine (searchOf_any s fresh _).mono ?_; rintro e wA ⟨rfl, mA⟩) | (go_at_call 17; refine (newSearch_any s fresh _).mono ?_; rintro e w2 ⟨sb1, fb1, rfl, rS, mB, bS⟩))
  have HS1 : Hid (SRep s sb1 fb1 fresh w2 ∧ w1.heap.size ≤ sb1) := ⟨rS, by have := mA.size; exact Nat.le_trans this bS⟩
  have HA2 : Hid (w2.heap[N]? = some (.cells #[.int .i64 s.safe, .int .i64 s.tooLong, .int .i64 s.tests, .int .i64 s.timeout, .int .i64 s.retries, .int .u32 fresh, .int .u8 s.phase, .int .u32 s.nonce, .int .i64 s.sends, .int .i64 s.arranged, .int .i64 s.due, .bool s.mapped, .int .i64 s.made, .int .i64 s.passed] 43)) := mB.stays (mA.stays (w := w1.drew) HA.out id) id
  have HM2 : Hid (Mod (fun _ => False) w w2) := (HM.out.drew.trans mA).trans mB
  clear rS mA mB bS a0 a1 a2 a3 a4 a5 a6 a7 a8 a9 a10 a11 a12 a13
  have a0 := cell_of HA2.out (k := 0) rfl
  have a1 := cell_of HA2.out (k := 1) rfl
  have a2 := cell_of HA2.out (k := 2) rfl
  have a3 := cell_of HA2.out (k := 3) rfl
  have a4 := cell_of HA2.out (k := 4) rfl
  have a5 := cell_of HA2.out (k := 5) rfl
  have a6 := cell_of HA2.out (k := 6) rfl
  have a7 := cell_of HA2.out (k := 7) rfl
  have a8 := cell_of HA2.out (k := 8) rfl
  have a9 := cell_of HA2.out (k := 9) rfl
  have a10 := cell_of HA2.out (k := 10) rfl
  have a11 := cell_of HA2.out (k := 11) rfl
  have a12 := cell_of HA2.out (k := 12) rfl
  have a13 := cell_of HA2.out (k := 13) rfl
  go_upto_region 4 with fail
  go_region_held3 (fun w' => w'.cell? ⟨N, 0, none⟩ = some (.int .i64 s.safe) ∧ w'.cell? ⟨N, 1, none⟩ = some (.int .i64 s.tooLong) ∧ w'.cell? ⟨N, 2, none⟩ = some (.int .i64 s.tests) ∧ w'.cell? ⟨N, 3, none⟩ = some (.int .i64 s.timeout) ∧ w'.cell? ⟨N, 4, none⟩ = some (.int .i64 s.retries) ∧ w'.cell? ⟨N, 5, none⟩ = some (.int .u32 fresh) ∧ w'.cell? ⟨N, 6, none⟩ = some (.int .u8 s.phase) ∧ w'.cell? ⟨N, 7, none⟩ = some (.int .u32 s.nonce) ∧ w'.cell? ⟨N, 8, none⟩ = some (.int .i64 s.sends) ∧ w'.cell? ⟨N, 9, none⟩ = some (.int .i64 s.arranged) ∧ w'.cell? ⟨N, 10, none⟩ = some (.int .i64 s.due) ∧ w'.cell? ⟨N, 11, none⟩ = some (.bool s.mapped) ∧ w'.cell? ⟨N, 12, none⟩ = some (.int .i64 s.made) ∧ w'.cell? ⟨N, 13, none⟩ = some (.int .i64 s.passed))
    (first | exact ⟨cell_of (mB.stays (mA.stays (w := w2.drew) HA2.out id) id) rfl, cell_of (mB.stays (mA.stays (w := w2.drew) HA2.out id) id) rfl, cell_of (mB.stays (mA.stays (w := w2.drew) HA2.out id) id) rfl, cell_of (mB.stays (mA.stays (w := w2.drew) HA2.out id) id) rfl, cell_of (mB.stays (mA.stays (w := w2.drew) HA2.out id) id) rfl, cell_of (mB.stays (mA.stays (w := w2.drew) HA2.out id) id) rfl, cell_of (mB.stays (mA.stays (w := w2.drew) HA2.out id) id) rfl, cell_of (mB.stays (mA.stays (w := w2.drew) HA2.out id) id) rfl, cell_of (mB.stays (mA.stays (w := w2.drew) HA2.out id) id) rfl, cell_of (mB.stays (mA.stays (w := w2.drew) HA2.out id) id) rfl, cell_of (mB.stays (mA.stays (w := w2.drew) HA2.out id) id) rfl, cell_of (mB.stays (mA.stays (w := w2.drew) HA2.out id) id) rfl, cell_of (mB.stays (mA.stays (w := w2.drew) HA2.out id) id) rfl, cell_of (mB.stays (mA.stays (w := w2.drew) HA2.out id) id) rfl⟩ | exact ⟨cell_of (mA.stays (w := w2.drew) HA2.out id) rfl, cell_of (mA.stays (w := w2.drew) HA2.out id) rfl, cell_of (mA.stays (w := w2.drew) HA2.out id) rfl, cell_of (mA.stays (w := w2.drew) HA2.out id) rfl, cell_of (mA.stays (w := w2.drew) HA2.out id) rfl, cell_of (mA.stays (w := w2.drew) HA2.out id) rfl, cell_of (mA.stays (w := w2.drew) HA2.out id) rfl, cell_of (mA.stays (w := w2.drew) HA2.out id) rfl, cell_of (mA.stays (w := w2.drew) HA2.out id) rfl, cell_of (mA.stays (w := w2.drew) HA2.out id) rfl, cell_of (mA.stays (w := w2.drew) HA2.out id) rfl, cell_of (mA.stays (w := w2.drew) HA2.out id) rfl, cell_of (mA.stays (w := w2.drew) HA2.out id) rfl, cell_of (mA.stays (w := w2.drew) HA2.out id) rfl⟩ | go_keep)
    (first | (go_at_call 18; refine (searchOf_any s fresh _).mono ?_; rintro e wA ⟨rfl, mA⟩) | (go_at_call 17; refine (newSearch_any s fresh _).mono ?_; rintro e w3 ⟨sb2, fb2, rfl, rS, mB, bS⟩))
  have HS2 : Hid (SRep s sb2 fb2 fresh w3 ∧ w2.heap.size ≤ sb2) := ⟨rS, by have := mA.size; exact Nat.le_trans this bS⟩
  have HT3 : Hid (SRep s sb1 fb1 fresh w3) := ((⟨HS1.out.1.hs, HS1.out.1.hf⟩ : SRep s sb1 fb1 fresh w2.drew).still mA).still mB
  have HA3 : Hid (w3.heap[N]? = some (.cells #[.int .i64 s.safe, .int .i64 s.tooLong, .int .i64 s.tests, .int .i64 s.timeout, .int .i64 s.retries, .int .u32 fresh, .int .u8 s.phase, .int .u32 s.nonce, .int .i64 s.sends, .int .i64 s.arranged, .int .i64 s.due, .bool s.mapped, .int .i64 s.made, .int .i64 s.passed] 43)) := mB.stays (mA.stays (w := w2.drew) HA2.out id) id
  have HM3 : Hid (Mod (fun _ => False) w w3) := (HM2.out.drew.trans mA).trans mB
  clear rS mA mB bS a0 a1 a2 a3 a4 a5 a6 a7 a8 a9 a10 a11 a12 a13
  have HX : Hid (N ≠ sb1 ∧ N ≠ sb2 ∧ w.heap.size ≤ sb1 ∧ w.heap.size ≤ sb2 ∧ sb1 ≠ sb2 ∧ fb1 ≠ sb2 ∧ fb2 ≠ sb1) := by
    have h1 := heap_lt HA.out; have h2 := HS1.out.2; have h3 := HM.out.size; have h4 := HM2.out.size; have h5 := HS2.out.2; have h6 := heap_lt HA2.out
    have h7 := heap_lt HS1.out.1.hs; have h8 := heap_lt HS1.out.1.hf
    exact ⟨by omega, by omega, by omega, by omega, by omega, by omega, HS2.out.1.apart HT3.out.hs⟩
  generalize hs1 : trialS s fresh now = s1
  have HE : Hid (trialS s fresh now = s1) := hs1
  have HG : Hid (againS s now = { s1 with nonce := s.nonce, sends := wrap64 (s.sends + 1), arranged := s.arranged }) := by show _ = _; rw [← hs1]; rfl
  clear hs1
  go_wp2_with fail
  refine (zztrial_any HT3.out HF.out now HNOW.out.1 HNOW.out.2).mono ?_
  rintro e w4 ⟨rfl, r, m⟩
  rw [HE.out] at r
  have HT4 : Hid (SRep s1 sb1 fb1 fresh w4) := r
  have HU4 : Hid (SRep s sb2 fb2 fresh w4) := HS2.out.1.kept m (Ne.symm HX.out.2.2.2.2.1) HX.out.2.2.2.2.2.2
  have HA4 : Hid (w4.heap[N]? = some (.cells #[.int .i64 s.safe, .int .i64 s.tooLong, .int .i64 s.tests, .int .i64 s.timeout, .int .i64 s.retries, .int .u32 fresh, .int .u8 s.phase, .int .u32 s.nonce, .int .i64 s.sends, .int .i64 s.arranged, .int .i64 s.due, .bool s.mapped, .int .i64 s.made, .int .i64 s.passed] 43)) := m.stays HA3.out HX.out.1
  have HM4 : Hid (Mod (fun _ => False) w w4) := Mod.over HM3.out m HX.out.2.2.1
  clear r m
  go_wp2_with fail
  refine (zzagain_any HU4.out HF.out now HNOW.out.1 HNOW.out.2).mono ?_
  rintro e w5 ⟨rfl, r, m⟩
  rw [HG.out] at r
  have HU5 : Hid (SRep { s1 with nonce := s.nonce, sends := wrap64 (s.sends + 1), arranged := s.arranged } sb2 fb2 fresh w5) := r
  have HT5 : Hid (SRep s1 sb1 fb1 fresh w5) := HT4.out.kept m HX.out.2.2.2.2.1 HX.out.2.2.2.2.2.1
  have HA5 : Hid (w5.heap[N]? = some (.cells #[.int .i64 s.safe, .int .i64 s.tooLong, .int .i64 s.tests, .int .i64 s.timeout, .int .i64 s.retries, .int .u32 fresh, .int .u8 s.phase, .int .u32 s.nonce, .int .i64 s.sends, .int .i64 s.arranged, .int .i64 s.due, .bool s.mapped, .int .i64 s.made, .int .i64 s.passed] 43)) := m.stays HA4.out HX.out.2.1
  have HM5 : Hid (Mod (fun _ => False) w w5) := Mod.over HM4.out m HX.out.2.2.2.1
  clear r m
  go_wp2_with fail
  refine (fields_any HT5.out).mono ?_
  unfold Sr.plain
  rintro e w6 ⟨rfl, m⟩
  have HU6 : Hid (SRep { s1 with nonce := s.nonce, sends := wrap64 (s.sends + 1), arranged := s.arranged } sb2 fb2 fresh w6) := HU5.out.still m
  have HA6 : Hid (w6.heap[N]? = some (.cells #[.int .i64 s.safe, .int .i64 s.tooLong, .int .i64 s.tests, .int .i64 s.timeout, .int .i64 s.retries, .int .u32 fresh, .int .u8 s.phase, .int .u32 s.nonce, .int .i64 s.sends, .int .i64 s.arranged, .int .i64 s.due, .bool s.mapped, .int .i64 s.made, .int .i64 s.passed] 43)) := m.stays HA5.out id
  have HM6 : Hid (Mod (fun _ => False) w w6) := HM5.out.trans m
  clear m
  go_upto_region 8 with fail
  have HB7 : Hid ((w6.alloc (.cells #[.int .i64 s1.safe, .int .i64 s1.tooLong, .int .i64 s1.tests, .int .i64 s1.timeout, .int .i64 s1.retries, .int .u8 s1.phase, .int .u32 s1.nonce, .int .i64 s1.sends, .int .i64 s1.arranged, .int .i64 s1.due, .bool s1.mapped, .int .i64 s1.made, .int .i64 s1.passed] 48)).heap[w6.heap.size]? = some (.cells #[.int .i64 s1.safe, .int .i64 s1.tooLong, .int .i64 s1.tests, .int .i64 s1.timeout, .int .i64 s1.retries, .int .u8 s1.phase, .int .u32 s1.nonce, .int .i64 s1.sends, .int .i64 s1.arranged, .int .i64 s1.due, .bool s1.mapped, .int .i64 s1.made, .int .i64 s1.passed] 48)) := heap_new w6 _
  have HU7 : Hid (SRep { s1 with nonce := s.nonce, sends := wrap64 (s.sends + 1), arranged := s.arranged } sb2 fb2 fresh (w6.alloc (.cells #[.int .i64 s1.safe, .int .i64 s1.tooLong, .int .i64 s1.tests, .int .i64 s1.timeout, .int .i64 s1.retries, .int .u8 s1.phase, .int .u32 s1.nonce, .int .i64 s1.sends, .int .i64 s1.arranged, .int .i64 s1.due, .bool s1.mapped, .int .i64 s1.made, .int .i64 s1.passed] 48))) := HU6.out.alloc _
  have HA7 : Hid ((w6.alloc (.cells #[.int .i64 s1.safe, .int .i64 s1.tooLong, .int .i64 s1.tests, .int .i64 s1.timeout, .int .i64 s1.retries, .int .u8 s1.phase, .int .u32 s1.nonce, .int .i64 s1.sends, .int .i64 s1.arranged, .int .i64 s1.due, .bool s1.mapped, .int .i64 s1.made, .int .i64 s1.passed] 48)).heap[N]? = some (.cells #[.int .i64 s.safe, .int .i64 s.tooLong, .int .i64 s.tests, .int .i64 s.timeout, .int .i64 s.retries, .int .u32 fresh, .int .u8 s.phase, .int .u32 s.nonce, .int .i64 s.sends, .int .i64 s.arranged, .int .i64 s.due, .bool s.mapped, .int .i64 s.made, .int .i64 s.passed] 43)) := heap_old HA6.out _
  have HM7 : Hid (Mod (fun _ => False) w (w6.alloc (.cells #[.int .i64 s1.safe, .int .i64 s1.tooLong, .int .i64 s1.tests, .int .i64 s1.timeout, .int .i64 s1.retries, .int .u8 s1.phase, .int .u32 s1.nonce, .int .i64 s1.sends, .int .i64 s1.arranged, .int .i64 s1.due, .bool s1.mapped, .int .i64 s1.made, .int .i64 s1.passed] 48))) := HM6.out.alloc _
  generalize w6.alloc (.cells #[.int .i64 s1.safe, .int .i64 s1.tooLong, .int .i64 s1.tests, .int .i64 s1.timeout, .int .i64 s1.retries, .int .u8 s1.phase, .int .u32 s1.nonce, .int .i64 s1.sends, .int .i64 s1.arranged, .int .i64 s1.due, .bool s1.mapped, .int .i64 s1.made, .int .i64 s1.passed] 48) = w7 at HB7 HU7 HA7 HM7 ⊢
  generalize w6.heap.size = N1 at HB7 ⊢
  go_wp2_with fail
  refine (fields_any HU7.out).mono ?_
  unfold Sr.plain
  rintro e w8 ⟨rfl, m⟩
  dsimp only
  have HB8 : Hid (w8.heap[N1]? = some (.cells #[.int .i64 s1.safe, .int .i64 s1.tooLong, .int .i64 s1.tests, .int .i64 s1.timeout, .int .i64 s1.retries, .int .u8 s1.phase, .int .u32 s1.nonce, .int .i64 s1.sends, .int .i64 s1.arranged, .int .i64 s1.due, .bool s1.mapped, .int .i64 s1.made, .int .i64 s1.passed] 48)) := m.stays HB7.out id
  have HA8 : Hid (w8.heap[N]? = some (.cells #[.int .i64 s.safe, .int .i64 s.tooLong, .int .i64 s.tests, .int .i64 s.timeout, .int .i64 s.retries, .int .u32 fresh, .int .u8 s.phase, .int .u32 s.nonce, .int .i64 s.sends, .int .i64 s.arranged, .int .i64 s.due, .bool s.mapped, .int .i64 s.made, .int .i64 s.passed] 43)) := m.stays HA7.out id
  have HM8 : Hid (Mod (fun _ => False) w w8) := HM7.out.trans m
  clear m
  go_upto_region 9 with fail
  have HC9 : Hid ((w8.alloc (.cells #[.int .i64 s1.safe, .int .i64 s1.tooLong, .int .i64 s1.tests, .int .i64 s1.timeout, .int .i64 s1.retries, .int .u8 s1.phase, .int .u32 s.nonce, .int .i64 (wrap64 (s.sends + 1)), .int .i64 s.arranged, .int .i64 s1.due, .bool s1.mapped, .int .i64 s1.made, .int .i64 s1.passed] 48)).heap[w8.heap.size]? = some (.cells #[.int .i64 s1.safe, .int .i64 s1.tooLong, .int .i64 s1.tests, .int .i64 s1.timeout, .int .i64 s1.retries, .int .u8 s1.phase, .int .u32 s.nonce, .int .i64 (wrap64 (s.sends + 1)), .int .i64 s.arranged, .int .i64 s1.due, .bool s1.mapped, .int .i64 s1.made, .int .i64 s1.passed] 48)) := heap_new w8 _
  have HB9 : Hid ((w8.alloc (.cells #[.int .i64 s1.safe, .int .i64 s1.tooLong, .int .i64 s1.tests, .int .i64 s1.timeout, .int .i64 s1.retries, .int .u8 s1.phase, .int .u32 s.nonce, .int .i64 (wrap64 (s.sends + 1)), .int .i64 s.arranged, .int .i64 s1.due, .bool s1.mapped, .int .i64 s1.made, .int .i64 s1.passed] 48)).heap[N1]? = some (.cells #[.int .i64 s1.safe, .int .i64 s1.tooLong, .int .i64 s1.tests, .int .i64 s1.timeout, .int .i64 s1.retries, .int .u8 s1.phase, .int .u32 s1.nonce, .int .i64 s1.sends, .int .i64 s1.arranged, .int .i64 s1.due, .bool s1.mapped, .int .i64 s1.made, .int .i64 s1.passed] 48)) := heap_old HB8.out _
  have HA9 : Hid ((w8.alloc (.cells #[.int .i64 s1.safe, .int .i64 s1.tooLong, .int .i64 s1.tests, .int .i64 s1.timeout, .int .i64 s1.retries, .int .u8 s1.phase, .int .u32 s.nonce, .int .i64 (wrap64 (s.sends + 1)), .int .i64 s.arranged, .int .i64 s1.due, .bool s1.mapped, .int .i64 s1.made, .int .i64 s1.passed] 48)).heap[N]? = some (.cells #[.int .i64 s.safe, .int .i64 s.tooLong, .int .i64 s.tests, .int .i64 s.timeout, .int .i64 s.retries, .int .u32 fresh, .int .u8 s.phase, .int .u32 s.nonce, .int .i64 s.sends, .int .i64 s.arranged, .int .i64 s.due, .bool s.mapped, .int .i64 s.made, .int .i64 s.passed] 43)) := heap_old HA8.out _
  have HM9 : Hid (Mod (fun _ => False) w (w8.alloc (.cells #[.int .i64 s1.safe, .int .i64 s1.tooLong, .int .i64 s1.tests, .int .i64 s1.timeout, .int .i64 s1.retries, .int .u8 s1.phase, .int .u32 s.nonce, .int .i64 (wrap64 (s.sends + 1)), .int .i64 s.arranged, .int .i64 s1.due, .bool s1.mapped, .int .i64 s1.made, .int .i64 s1.passed] 48))) := HM8.out.alloc _
  clear HA HA2 HA3 HA4 HA5 HA6 HA7 HA8 HB7 HB8 HS1 HS2 HT3 HT4 HU4 HU5 HT5 HU6 HU7 HM HM2 HM3 HM4 HM5 HM6 HM7 HM8 HX HN HG
  generalize w8.alloc (.cells #[.int .i64 s1.safe, .int .i64 s1.tooLong, .int .i64 s1.tests, .int .i64 s1.timeout, .int .i64 s1.retries, .int .u8 s1.phase, .int .u32 s.nonce, .int .i64 (wrap64 (s.sends + 1)), .int .i64 s.arranged, .int .i64 s1.due, .bool s1.mapped, .int .i64 s1.made, .int .i64 s1.passed] 48) = w9 at HC9 HB9 HA9 HM9 ⊢
  generalize w8.heap.size = N2 at HC9 ⊢
  have a0 := cell_of HA9.out (k := 0) rfl
  have a1 := cell_of HA9.out (k := 1) rfl
  have a2 := cell_of HA9.out (k := 2) rfl
  have a3 := cell_of HA9.out (k := 3) rfl
  have a4 := cell_of HA9.out (k := 4) rfl
  have a5 := cell_of HA9.out (k := 5) rfl
  have a6 := cell_of HA9.out (k := 6) rfl
  have a7 := cell_of HA9.out (k := 7) rfl
  have a8 := cell_of HA9.out (k := 8) rfl
  have a9 := cell_of HA9.out (k := 9) rfl
  have a10 := cell_of HA9.out (k := 10) rfl
  have a11 := cell_of HA9.out (k := 11) rfl
  have a12 := cell_of HA9.out (k := 12) rfl
  have a13 := cell_of HA9.out (k := 13) rfl
  have b0 := cell_of HB9.out (k := 0) rfl
  have b1 := cell_of HB9.out (k := 1) rfl
  have b2 := cell_of HB9.out (k := 2) rfl
  have b3 := cell_of HB9.out (k := 3) rfl
  have b4 := cell_of HB9.out (k := 4) rfl
  have b5 := cell_of HB9.out (k := 5) rfl
  have b6 := cell_of HB9.out (k := 6) rfl
  have b7 := cell_of HB9.out (k := 7) rfl
  have b8 := cell_of HB9.out (k := 8) rfl
  have b9 := cell_of HB9.out (k := 9) rfl
  have b10 := cell_of HB9.out (k := 10) rfl
  have b11 := cell_of HB9.out (k := 11) rfl
  have b12 := cell_of HB9.out (k := 12) rfl
  have ltA := heap_lt HA9.out
  have neA : N ≠ w9.heap.size := by omega
  go_upto_region 13 with fail
  clear a0 a1 a2 a3 a4 a5 a6 a7 a8 a9 a10 a11 a12 a13 b0 b1 b2 b3 b4 b5 b6 b7 b8 b9 b10 b11 b12 ltA neA
  have HDF : Hid ((w9.alloc (.cells #[.int .i64 s1.safe, .int .i64 s1.tooLong, .int .i64 s1.tests, .int .i64 s1.timeout, .int .i64 s1.retries, .int .u8 s1.phase, .int .u32 s.nonce, .int .i64 (wrap64 (s.sends + 1)), .int .i64 s.arranged, .int .i64 s1.due, .bool s1.mapped, .int .i64 s1.made, .int .i64 s1.passed] 48)).heap[w9.heap.size]? = some (.cells #[.int .i64 s1.safe, .int .i64 s1.tooLong, .int .i64 s1.tests, .int .i64 s1.timeout, .int .i64 s1.retries, .int .u8 s1.phase, .int .u32 s.nonce, .int .i64 (wrap64 (s.sends + 1)), .int .i64 s.arranged, .int .i64 s1.due, .bool s1.mapped, .int .i64 s1.made, .int .i64 s1.passed] 48)) := heap_new w9 _
  have HCF : Hid ((w9.alloc (.cells #[.int .i64 s1.safe, .int .i64 s1.tooLong, .int .i64 s1.tests, .int .i64 s1.timeout, .int .i64 s1.retries, .int .u8 s1.phase, .int .u32 s.nonce, .int .i64 (wrap64 (s.sends + 1)), .int .i64 s.arranged, .int .i64 s1.due, .bool s1.mapped, .int .i64 s1.made, .int .i64 s1.passed] 48)).heap[N2]? = some (.cells #[.int .i64 s1.safe, .int .i64 s1.tooLong, .int .i64 s1.tests, .int .i64 s1.timeout, .int .i64 s1.retries, .int .u8 s1.phase, .int .u32 s.nonce, .int .i64 (wrap64 (s.sends + 1)), .int .i64 s.arranged, .int .i64 s1.due, .bool s1.mapped, .int .i64 s1.made, .int .i64 s1.passed] 48)) := heap_old HC9.out _
  have HBF : Hid ((w9.alloc (.cells #[.int .i64 s1.safe, .int .i64 s1.tooLong, .int .i64 s1.tests, .int .i64 s1.timeout, .int .i64 s1.retries, .int .u8 s1.phase, .int .u32 s.nonce, .int .i64 (wrap64 (s.sends + 1)), .int .i64 s.arranged, .int .i64 s1.due, .bool s1.mapped, .int .i64 s1.made, .int .i64 s1.passed] 48)).heap[N1]? = some (.cells #[.int .i64 s1.safe, .int .i64 s1.tooLong, .int .i64 s1.tests, .int .i64 s1.timeout, .int .i64 s1.retries, .int .u8 s1.phase, .int .u32 s1.nonce, .int .i64 s1.sends, .int .i64 s1.arranged, .int .i64 s1.due, .bool s1.mapped, .int .i64 s1.made, .int .i64 s1.passed] 48)) := heap_old HB9.out _
  have HAF : Hid ((w9.alloc (.cells #[.int .i64 s1.safe, .int .i64 s1.tooLong, .int .i64 s1.tests, .int .i64 s1.timeout, .int .i64 s1.retries, .int .u8 s1.phase, .int .u32 s.nonce, .int .i64 (wrap64 (s.sends + 1)), .int .i64 s.arranged, .int .i64 s1.due, .bool s1.mapped, .int .i64 s1.made, .int .i64 s1.passed] 48)).heap[N]? = some (.cells #[.int .i64 s.safe, .int .i64 s.tooLong, .int .i64 s.tests, .int .i64 s.timeout, .int .i64 s.retries, .int .u32 fresh, .int .u8 s.phase, .int .u32 s.nonce, .int .i64 s.sends, .int .i64 s.arranged, .int .i64 s.due, .bool s.mapped, .int .i64 s.made, .int .i64 s.passed] 43)) := heap_old HA9.out _
  have HMF : Hid (Mod (fun _ => False) w (w9.alloc (.cells #[.int .i64 s1.safe, .int .i64 s1.tooLong, .int .i64 s1.tests, .int .i64 s1.timeout, .int .i64 s1.retries, .int .u8 s1.phase, .int .u32 s.nonce, .int .i64 (wrap64 (s.sends + 1)), .int .i64 s.arranged, .int .i64 s1.due, .bool s1.mapped, .int .i64 s1.made, .int .i64 s1.passed] 48))) := HM9.out.alloc _
  clear HA9 HB9 HC9 HM9
  generalize w9.alloc (.cells #[.int .i64 s1.safe, .int .i64 s1.tooLong, .int .i64 s1.tests, .int .i64 s1.timeout, .int .i64 s1.retries, .int .u8 s1.phase, .int .u32 s.nonce, .int .i64 (wrap64 (s.sends + 1)), .int .i64 s.arranged, .int .i64 s1.due, .bool s1.mapped, .int .i64 s1.made, .int .i64 s1.passed] 48) = wF at HAF HBF HCF HDF HMF ⊢
  generalize w9.heap.size = N3 at HDF ⊢
  have e48 : ∀ w, (binOp .eql 48 (.agg #[.int .i64 s1.safe, .int .i64 s1.tooLong, .int .i64 s1.tests, .int .i64 s1.timeout, .int .i64 s1.retries, .int .u8 s1.phase, .int .u32 s1.nonce, .int .i64 s1.sends, .int .i64 s1.arranged, .int .i64 s1.due, .bool s1.mapped, .int .i64 s1.made, .int .i64 s1.passed]) (.agg #[.int .i64 s1.safe, .int .i64 s1.tooLong, .int .i64 s1.tests, .int .i64 s1.timeout, .int .i64 s1.retries, .int .u8 s1.phase, .int .u32 s1.nonce, .int .i64 s1.sends, .int .i64 s1.arranged, .int .i64 s1.due, .bool s1.mapped, .int .i64 s1.made, .int .i64 s1.passed])).run Try.prog w = .ok (.bool true) w := fun w => eq48 s1 w
  have e48b : ∀ w, (binOp .eql 48 (.agg #[.int .i64 s1.safe, .int .i64 s1.tooLong, .int .i64 s1.tests, .int .i64 s1.timeout, .int .i64 s1.retries, .int .u8 s1.phase, .int .u32 s.nonce, .int .i64 (wrap64 (s.sends + 1)), .int .i64 s.arranged, .int .i64 s1.due, .bool s1.mapped, .int .i64 s1.made, .int .i64 s1.passed]) (.agg #[.int .i64 s1.safe, .int .i64 s1.tooLong, .int .i64 s1.tests, .int .i64 s1.timeout, .int .i64 s1.retries, .int .u8 s1.phase, .int .u32 s.nonce, .int .i64 (wrap64 (s.sends + 1)), .int .i64 s.arranged, .int .i64 s1.due, .bool s1.mapped, .int .i64 s1.made, .int .i64 s1.passed])).run Try.prog w = .ok (.bool true) w := fun w => eq48 { s1 with nonce := s.nonce, sends := wrap64 (s.sends + 1), arranged := s.arranged } w
  have a0 := cell_of HAF.out (k := 0) rfl
  have a1 := cell_of HAF.out (k := 1) rfl
  have a2 := cell_of HAF.out (k := 2) rfl
  have a3 := cell_of HAF.out (k := 3) rfl
  have a4 := cell_of HAF.out (k := 4) rfl
  have a5 := cell_of HAF.out (k := 5) rfl
  have a6 := cell_of HAF.out (k := 6) rfl
  have a7 := cell_of HAF.out (k := 7) rfl
  have a8 := cell_of HAF.out (k := 8) rfl
  have a9 := cell_of HAF.out (k := 9) rfl
  have a10 := cell_of HAF.out (k := 10) rfl
  have a11 := cell_of HAF.out (k := 11) rfl
  have a12 := cell_of HAF.out (k := 12) rfl
  have a13 := cell_of HAF.out (k := 13) rfl
  have b0 := cell_of HBF.out (k := 0) rfl
  have b1 := cell_of HBF.out (k := 1) rfl
  have b2 := cell_of HBF.out (k := 2) rfl
  have b3 := cell_of HBF.out (k := 3) rfl
  have b4 := cell_of HBF.out (k := 4) rfl
  have b5 := cell_of HBF.out (k := 5) rfl
  have b6 := cell_of HBF.out (k := 6) rfl
  have b7 := cell_of HBF.out (k := 7) rfl
  have b8 := cell_of HBF.out (k := 8) rfl
  have b9 := cell_of HBF.out (k := 9) rfl
  have b10 := cell_of HBF.out (k := 10) rfl
  have b11 := cell_of HBF.out (k := 11) rfl
  have b12 := cell_of HBF.out (k := 12) rfl
  have c0 := cell_of HCF.out (k := 0) rfl
  have c1 := cell_of HCF.out (k := 1) rfl
  have c2 := cell_of HCF.out (k := 2) rfl
  have c3 := cell_of HCF.out (k := 3) rfl
  have c4 := cell_of HCF.out (k := 4) rfl
  have c5 := cell_of HCF.out (k := 5) rfl
  have c6 := cell_of HCF.out (k := 6) rfl
  have c7 := cell_of HCF.out (k := 7) rfl
  have c8 := cell_of HCF.out (k := 8) rfl
  have c9 := cell_of HCF.out (k := 9) rfl
  have c10 := cell_of HCF.out (k := 10) rfl
  have c11 := cell_of HCF.out (k := 11) rfl
  have c12 := cell_of HCF.out (k := 12) rfl
  have d0 := cell_of HDF.out (k := 0) rfl
  have d1 := cell_of HDF.out (k := 1) rfl
  have d2 := cell_of HDF.out (k := 2) rfl
  have d3 := cell_of HDF.out (k := 3) rfl
  have d4 := cell_of HDF.out (k := 4) rfl
  have d5 := cell_of HDF.out (k := 5) rfl
  have d6 := cell_of HDF.out (k := 6) rfl
  have d7 := cell_of HDF.out (k := 7) rfl
  have d8 := cell_of HDF.out (k := 8) rfl
  have d9 := cell_of HDF.out (k := 9) rfl
  have d10 := cell_of HDF.out (k := 10) rfl
  have d11 := cell_of HDF.out (k := 11) rfl
  have d12 := cell_of HDF.out (k := 12) rfl
  go_region_held3 (fun w' => w'.cell? ⟨N, 0, none⟩ = some (.int .i64 s.safe) ∧ w'.cell? ⟨N, 1, none⟩ = some (.int .i64 s.tooLong) ∧ w'.cell? ⟨N, 2, none⟩ = some (.int .i64 s.tests) ∧ w'.cell? ⟨N, 3, none⟩ = some (.int .i64 s.timeout) ∧ w'.cell? ⟨N, 4, none⟩ = some (.int .i64 s.retries) ∧ w'.cell? ⟨N, 5, none⟩ = some (.int .u32 fresh) ∧ w'.cell? ⟨N, 6, none⟩ = some (.int .u8 s.phase) ∧ w'.cell? ⟨N, 7, none⟩ = some (.int .u32 s.nonce) ∧ w'.cell? ⟨N, 8, none⟩ = some (.int .i64 s.sends) ∧ w'.cell? ⟨N, 9, none⟩ = some (.int .i64 s.arranged) ∧ w'.cell? ⟨N, 10, none⟩ = some (.int .i64 s.due) ∧ w'.cell? ⟨N, 11, none⟩ = some (.bool s.mapped) ∧ w'.cell? ⟨N, 12, none⟩ = some (.int .i64 s.made) ∧ w'.cell? ⟨N, 13, none⟩ = some (.int .i64 s.passed) ∧ w'.cell? ⟨N1, 0, none⟩ = some (.int .i64 s1.safe) ∧ w'.cell? ⟨N1, 1, none⟩ = some (.int .i64 s1.tooLong) ∧ w'.cell? ⟨N1, 2, none⟩ = some (.int .i64 s1.tests) ∧ w'.cell? ⟨N1, 3, none⟩ = some (.int .i64 s1.timeout) ∧ w'.cell? ⟨N1, 4, none⟩ = some (.int .i64 s1.retries) ∧ w'.cell? ⟨N1, 5, none⟩ = some (.int .u8 s1.phase) ∧ w'.cell? ⟨N1, 6, none⟩ = some (.int .u32 s1.nonce) ∧ w'.cell? ⟨N1, 7, none⟩ = some (.int .i64 s1.sends) ∧ w'.cell? ⟨N1, 8, none⟩ = some (.int .i64 s1.arranged) ∧ w'.cell? ⟨N1, 9, none⟩ = some (.int .i64 s1.due) ∧ w'.cell? ⟨N1, 10, none⟩ = some (.bool s1.mapped) ∧ w'.cell? ⟨N1, 11, none⟩ = some (.int .i64 s1.made) ∧ w'.cell? ⟨N1, 12, none⟩ = some (.int .i64 s1.passed) ∧ w'.cell? ⟨N2, 0, none⟩ = some (.int .i64 s1.safe) ∧ w'.cell? ⟨N2, 1, none⟩ = some (.int .i64 s1.tooLong) ∧ w'.cell? ⟨N2, 2, none⟩ = some (.int .i64 s1.tests) ∧ w'.cell? ⟨N2, 3, none⟩ = some (.int .i64 s1.timeout) ∧ w'.cell? ⟨N2, 4, none⟩ = some (.int .i64 s1.retries) ∧ w'.cell? ⟨N2, 5, none⟩ = some (.int .u8 s1.phase) ∧ w'.cell? ⟨N2, 6, none⟩ = some (.int .u32 s.nonce) ∧ w'.cell? ⟨N2, 7, none⟩ = some (.int .i64 (wrap64 (s.sends + 1))) ∧ w'.cell? ⟨N2, 8, none⟩ = some (.int .i64 s.arranged) ∧ w'.cell? ⟨N2, 9, none⟩ = some (.int .i64 s1.due) ∧ w'.cell? ⟨N2, 10, none⟩ = some (.bool s1.mapped) ∧ w'.cell? ⟨N2, 11, none⟩ = some (.int .i64 s1.made) ∧ w'.cell? ⟨N2, 12, none⟩ = some (.int .i64 s1.passed) ∧ w'.cell? ⟨N3, 0, none⟩ = some (.int .i64 s1.safe) ∧ w'.cell? ⟨N3, 1, none⟩ = some (.int .i64 s1.tooLong) ∧ w'.cell? ⟨N3, 2, none⟩ = some (.int .i64 s1.tests) ∧ w'.cell? ⟨N3, 3, none⟩ = some (.int .i64 s1.timeout) ∧ w'.cell? ⟨N3, 4, none⟩ = some (.int .i64 s1.retries) ∧ w'.cell? ⟨N3, 5, none⟩ = some (.int .u8 s1.phase) ∧ w'.cell? ⟨N3, 6, none⟩ = some (.int .u32 s.nonce) ∧ w'.cell? ⟨N3, 7, none⟩ = some (.int .i64 (wrap64 (s.sends + 1))) ∧ w'.cell? ⟨N3, 8, none⟩ = some (.int .i64 s.arranged) ∧ w'.cell? ⟨N3, 9, none⟩ = some (.int .i64 s1.due) ∧ w'.cell? ⟨N3, 10, none⟩ = some (.bool s1.mapped) ∧ w'.cell? ⟨N3, 11, none⟩ = some (.int .i64 s1.made) ∧ w'.cell? ⟨N3, 12, none⟩ = some (.int .i64 s1.passed))
    (first | exact ⟨cell_of (mC.stays (w := wF.drew) HAF.out id) rfl, cell_of (mC.stays (w := wF.drew) HAF.out id) rfl, cell_of (mC.stays (w := wF.drew) HAF.out id) rfl, cell_of (mC.stays (w := wF.drew) HAF.out id) rfl, cell_of (mC.stays (w := wF.drew) HAF.out id) rfl, cell_of (mC.stays (w := wF.drew) HAF.out id) rfl, cell_of (mC.stays (w := wF.drew) HAF.out id) rfl, cell_of (mC.stays (w := wF.drew) HAF.out id) rfl, cell_of (mC.stays (w := wF.drew) HAF.out id) rfl, cell_of (mC.stays (w := wF.drew) HAF.out id) rfl, cell_of (mC.stays (w := wF.drew) HAF.out id) rfl, cell_of (mC.stays (w := wF.drew) HAF.out id) rfl, cell_of (mC.stays (w := wF.drew) HAF.out id) rfl, cell_of (mC.stays (w := wF.drew) HAF.out id) rfl, cell_of (mC.stays (w := wF.drew) HBF.out id) rfl, cell_of (mC.stays (w := wF.drew) HBF.out id) rfl, cell_of (mC.stays (w := wF.drew) HBF.out id) rfl, cell_of (mC.stays (w := wF.drew) HBF.out id) rfl, cell_of (mC.stays (w := wF.drew) HBF.out id) rfl, cell_of (mC.stays (w := wF.drew) HBF.out id) rfl, cell_of (mC.stays (w := wF.drew) HBF.out id) rfl, cell_of (mC.stays (w := wF.drew) HBF.out id) rfl, cell_of (mC.stays (w := wF.drew) HBF.out id) rfl, cell_of (mC.stays (w := wF.drew) HBF.out id) rfl, cell_of (mC.stays (w := wF.drew) HBF.out id) rfl, cell_of (mC.stays (w := wF.drew) HBF.out id) rfl, cell_of (mC.stays (w := wF.drew) HBF.out id) rfl, cell_of (mC.stays (w := wF.drew) HCF.out id) rfl, cell_of (mC.stays (w := wF.drew) HCF.out id) rfl, cell_of (mC.stays (w := wF.drew) HCF.out id) rfl, cell_of (mC.stays (w := wF.drew) HCF.out id) rfl, cell_of (mC.stays (w := wF.drew) HCF.out id) rfl, cell_of (mC.stays (w := wF.drew) HCF.out id) rfl, cell_of (mC.stays (w := wF.drew) HCF.out id) rfl, cell_of (mC.stays (w := wF.drew) HCF.out id) rfl, cell_of (mC.stays (w := wF.drew) HCF.out id) rfl, cell_of (mC.stays (w := wF.drew) HCF.out id) rfl, cell_of (mC.stays (w := wF.drew) HCF.out id) rfl, cell_of (mC.stays (w := wF.drew) HCF.out id) rfl, cell_of (mC.stays (w := wF.drew) HCF.out id) rfl, cell_of (mC.stays (w := wF.drew) HDF.out id) rfl, cell_of (mC.stays (w := wF.drew) HDF.out id) rfl, cell_of (mC.stays (w := wF.drew) HDF.out id) rfl, cell_of (mC.stays (w := wF.drew) HDF.out id) rfl, cell_of (mC.stays (w := wF.drew) HDF.out id) rfl, cell_of (mC.stays (w := wF.drew) HDF.out id) rfl, cell_of (mC.stays (w := wF.drew) HDF.out id) rfl, cell_of (mC.stays (w := wF.drew) HDF.out id) rfl, cell_of (mC.stays (w := wF.drew) HDF.out id) rfl, cell_of (mC.stays (w := wF.drew) HDF.out id) rfl, cell_of (mC.stays (w := wF.drew) HDF.out id) rfl, cell_of (mC.stays (w := wF.drew) HDF.out id) rfl, cell_of (mC.stays (w := wF.drew) HDF.out id) rfl⟩ | go_keep)
    (first | (go_at_call 21; refine (after_at HE.out _ HF.out HNOW.out.1 HNOW.out.2).mono ?_; unfold Sr.plain; rintro e wC ⟨rfl, mC⟩))
  go_wp2
  go_ret
  exact ⟨rfl, HMF.out.drew.trans mC⟩

theorem agree_walk (s : Sr) (fresh now : Int) (w : World) (p1 : s.passed ≤ 9223372036854775807) (t1 : s.timeout ≤ 9223372036854775807) (n1 : now ≤ 9223372036854775807) :
    Calls Try.prog 7 #[.agg (s.state fresh), .int .i64 now] w fun e w' => e = .returned (.bool true) ∧ Below w.heap.size w w' := by
  by_cases h : 0 ≤ now ∧ 0 ≤ s.passed ∧ 0 ≤ s.timeout ∧ 0 ≤ s.safe ∧ s.safe ≤ 9223372036 ∧ s.phase ≤ 7
  · obtain ⟨h1, h2, h3, h4, h5, h6⟩ := h
    refine (agree_main s fresh now w ⟨h4, h5, h2, p1, h3, t1⟩ h6 h1 n1).mono ?_
    rintro e w' ⟨rfl, m⟩
    exact ⟨rfl, m.still_below⟩
  · refine (agree_skip s fresh now w h).mono ?_
    rintro e w' ⟨rfl, m⟩
    exact ⟨rfl, m.still_below⟩

end Go.Proofs.Qxb6616897a
