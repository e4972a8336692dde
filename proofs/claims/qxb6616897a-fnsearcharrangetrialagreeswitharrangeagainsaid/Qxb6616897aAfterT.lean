/- zzAfterTrial answers the state that arrangeTrial leaves. -/
import Derived.Test.Qxb6616897aAfterA
import Derived.Test.Qxb6616897aAfterB
import Derived.Test.Qxb6616897aAfterC
set_option linter.unusedSimpArgs false
set_option linter.unusedVariables false
namespace Go.Proofs.Qxb6616897a
open Go.RowKit

theorem w64_1 : wrap64 (0 + 1) = 1 := by unfold wrap64; omega

theorem trial_plain (s : Sr) (fresh now : Int) (hf : Fits s) (n0 : 0 ≤ now) (n1 : now ≤ 9223372036854775807) {k : Int} (hk : keptI s.safe s.phase = k) {b : Bool} (hb : (s.mapped && decide (now - s.passed ≤ k + 500000000)) = b) {d : Int} (hd : laterI now s.timeout = d) :
    (trialS s fresh now).plain = #[.int .i64 s.safe, .int .i64 s.tooLong, .int .i64 s.tests, .int .i64 s.timeout, .int .i64 s.retries, .int .u8 0, .int .u32 fresh, .int .i64 1, .int .i64 now, .int .i64 d, .bool b, .int .i64 (if b then s.made else now), .int .i64 now] := by
  obtain ⟨k0, k1⟩ := keptI_bd (phase := s.phase) hf.s0 hf.s1
  have e := held_rule n0 n1 hf.p0 hf.p1 k0 k1
  have e2 : (s.mapped && !heldI now (laterI s.passed (keptI s.safe s.phase))) = b := by rw [e, hk, Bool.not_not, hb]
  unfold trialS againS Sr.plain
  simp only [e2, hd, w64_1]

theorem after_any (s : Sr) (fresh now : Int) (w : World) (hf : Fits s) (n0 : 0 ≤ now) (n1 : now ≤ 9223372036854775807) :
    Calls Try.prog 21 #[.agg (s.state fresh), .int .i64 now] w fun e w' => e = .returned (.agg (trialS s fresh now).plain) ∧ Mod (fun _ => False) w w' := by
  have tp := fun k hk b hb d hd => trial_plain s fresh now hf n0 n1 (k := k) hk (b := b) hb (d := d) hd
  obtain ⟨safe, tooLong, tests, timeout, retries, phase, nonce, sends, arranged, due, mapped, made, passed⟩ := s
  obtain ⟨s0, s1, p0, p1, t0, t1⟩ := hf
  unfold Sr.state
  dsimp only at s0 s1 p0 p1 t0 t1 tp ⊢
  by_cases hp : phase = 1
  · subst hp
    have hk : keptI safe 1 = 3000000000 := by simp [keptI]
    by_cases hd : timeout ≤ 9223372036854775807 - now
    · have hl : laterI now timeout = now + timeout := by unfold laterI; rw [if_neg (by omega)]
      cases mapped
      · rw [tp _ hk false (by simp) _ hl]; exact after_a0x _ _ _ _ _ _ _ _ _ _ _ _ _ w s0 s1 p0 p1 t0 t1 n0 n1 hd
      · by_cases hm : now - passed ≤ 3500000000
        · rw [tp _ hk true (by simp; omega) _ hl]; exact after_a1x _ _ _ _ _ _ _ _ _ _ _ _ _ w s0 s1 p0 p1 t0 t1 n0 n1 hm hd
        · rw [tp _ hk false (by simp; omega) _ hl]; exact after_a2x _ _ _ _ _ _ _ _ _ _ _ _ _ w s0 s1 p0 p1 t0 t1 n0 n1 (by omega) hd
    · have hl : laterI now timeout = 9223372036854775807 := by unfold laterI; rw [if_pos (by omega)]
      cases mapped
      · rw [tp _ hk false (by simp) _ hl]; exact after_a0y _ _ _ _ _ _ _ _ _ _ _ _ _ w s0 s1 p0 p1 t0 t1 n0 n1 (by omega)
      · by_cases hm : now - passed ≤ 3500000000
        · rw [tp _ hk true (by simp; omega) _ hl]; exact after_a1y _ _ _ _ _ _ _ _ _ _ _ _ _ w s0 s1 p0 p1 t0 t1 n0 n1 hm (by omega)
        · rw [tp _ hk false (by simp; omega) _ hl]; exact after_a2y _ _ _ _ _ _ _ _ _ _ _ _ _ w s0 s1 p0 p1 t0 t1 n0 n1 (by omega) (by omega)
  · by_cases hs : 3000000000 < safe * 1000000000
    · have hk : keptI safe phase = safe * 1000000000 := by unfold keptI; rw [if_neg hp, if_pos hs]
      by_cases hd : timeout ≤ 9223372036854775807 - now
      · have hl : laterI now timeout = now + timeout := by unfold laterI; rw [if_neg (by omega)]
        cases mapped
        · rw [tp _ hk false (by simp) _ hl]; exact after_c0x _ _ _ _ _ _ _ _ _ _ _ _ _ _ w s0 s1 p0 p1 t0 t1 n0 n1 hp hs hd
        · by_cases hm : now - passed ≤ safe * 1000000000 + 500000000
          · rw [tp _ hk true (by simp; omega) _ hl]; exact after_c1x _ _ _ _ _ _ _ _ _ _ _ _ _ _ w s0 s1 p0 p1 t0 t1 n0 n1 hp hs hm hd
          · rw [tp _ hk false (by simp; omega) _ hl]; exact after_c2x _ _ _ _ _ _ _ _ _ _ _ _ _ _ w s0 s1 p0 p1 t0 t1 n0 n1 hp hs (by omega) hd
      · have hl : laterI now timeout = 9223372036854775807 := by unfold laterI; rw [if_pos (by omega)]
        cases mapped
        · rw [tp _ hk false (by simp) _ hl]; exact after_c0y _ _ _ _ _ _ _ _ _ _ _ _ _ _ w s0 s1 p0 p1 t0 t1 n0 n1 hp hs (by omega)
        · by_cases hm : now - passed ≤ safe * 1000000000 + 500000000
          · rw [tp _ hk true (by simp; omega) _ hl]; exact after_c1y _ _ _ _ _ _ _ _ _ _ _ _ _ _ w s0 s1 p0 p1 t0 t1 n0 n1 hp hs hm (by omega)
          · rw [tp _ hk false (by simp; omega) _ hl]; exact after_c2y _ _ _ _ _ _ _ _ _ _ _ _ _ _ w s0 s1 p0 p1 t0 t1 n0 n1 hp hs (by omega) (by omega)
    · have hk : keptI safe phase = 3000000000 := by unfold keptI; rw [if_neg hp, if_neg hs]
      by_cases hd : timeout ≤ 9223372036854775807 - now
      · have hl : laterI now timeout = now + timeout := by unfold laterI; rw [if_neg (by omega)]
        cases mapped
        · rw [tp _ hk false (by simp) _ hl]; exact after_b0x _ _ _ _ _ _ _ _ _ _ _ _ _ _ w s0 s1 p0 p1 t0 t1 n0 n1 hp (by omega) hd
        · by_cases hm : now - passed ≤ 3500000000
          · rw [tp _ hk true (by simp; omega) _ hl]; exact after_b1x _ _ _ _ _ _ _ _ _ _ _ _ _ _ w s0 s1 p0 p1 t0 t1 n0 n1 hp (by omega) hm hd
          · rw [tp _ hk false (by simp; omega) _ hl]; exact after_b2x _ _ _ _ _ _ _ _ _ _ _ _ _ _ w s0 s1 p0 p1 t0 t1 n0 n1 hp (by omega) (by omega) hd
      · have hl : laterI now timeout = 9223372036854775807 := by unfold laterI; rw [if_pos (by omega)]
        cases mapped
        · rw [tp _ hk false (by simp) _ hl]; exact after_b0y _ _ _ _ _ _ _ _ _ _ _ _ _ _ w s0 s1 p0 p1 t0 t1 n0 n1 hp (by omega) (by omega)
        · by_cases hm : now - passed ≤ 3500000000
          · rw [tp _ hk true (by simp; omega) _ hl]; exact after_b1y _ _ _ _ _ _ _ _ _ _ _ _ _ _ w s0 s1 p0 p1 t0 t1 n0 n1 hp (by omega) hm (by omega)
          · rw [tp _ hk false (by simp; omega) _ hl]; exact after_b2y _ _ _ _ _ _ _ _ _ _ _ _ _ _ w s0 s1 p0 p1 t0 t1 n0 n1 hp (by omega) (by omega) (by omega)

/-- What a trial leaves may be handed to a trial. -/
theorem fits_trial {s : Sr} (hf : Fits s) (fresh now : Int) (n0 : 0 ≤ now) (n1 : now ≤ 9223372036854775807) : Fits (trialS s fresh now) :=
  ⟨hf.s0, hf.s1, n0, n1, hf.t0, hf.t1⟩
/-- A second trial at the same time leaves what the first left. -/
theorem trial_twice {s : Sr} (hf : Fits s) (fresh now : Int) (n0 : 0 ≤ now) (n1 : now ≤ 9223372036854775807) : trialS (trialS s fresh now) fresh now = trialS s fresh now := by
  obtain ⟨k0, k1⟩ := keptI_bd (phase := 0) hf.s0 hf.s1
  have e := held_now n0 n1 k0 k1
  generalize hb : (s.mapped && !heldI now (laterI s.passed (keptI s.safe s.phase))) = b
  unfold trialS againS
  simp only [hb, e, Bool.not_false, Bool.and_true]
  cases b <;> rfl

end Go.Proofs.Qxb6616897a
