/- (*Entry).update. -/
import Derived.Test.Qxb6616570aUpd
set_option linter.unusedSimpArgs false
set_option linter.unusedVariables false
namespace Go.Proofs.Qxb6616570a
open Go.RowKit
open Go.MuLone

attribute [local go_sem] eq37 ne37 ne37n eq60 Pl_drew Pl_alloc Pl_setCell

/-- The record as 'view' answers it. -/
def recOf (S : St) : Value := .agg #[.int .i64 S.failures, .int .u64 0, .int .i64 0, .pointer none, .bool S.failing, .bool (decide (0 ≤ S.dialer))]

theorem good_told {L : Lay} {R : Raw} {S : St} (h : Good L { R with lk := 0 } S) (i : Nat) : Good L { newsR L R S.kept i L.n with lk := 0 } (newsS L S i) := by
  have u : ∀ (f : Nat → Bool) (j : Nat), f j = S.news j → nw L S.kept i L.n f j = nw L S.kept i L.n S.news j := fun f j hf => by unfold nw; rw [hf]
  exact ⟨rfl, h.fa, h.fg, h.dl, h.of, h.rf, fun j hj => u _ j (h.en j hj), fun j hj => u _ j (h.pn j hj), fun j hj => u _ j (h.ph j hj), h.oc, h.ob, links_same h.links rfl rfl, h.out, h.has, h.d0, h.d1, h.o0, h.o1⟩

theorem view_as {L : Lay} {R : Raw} {S : St} {w : World} (h : Rep L R w) (e1 : R.failures = S.failures) (e2 : R.failing = S.failing) (e3 : R.dialer = S.dialer) :
    Calls Try.prog 65 #[.pointer (some ⟨L.r, 0, none⟩)] w fun e w' => e = .returned (.agg #[.int .i64 S.failures, .int .u64 0, .int .i64 0, .pointer none, .bool S.failing, .bool (decide (0 ≤ S.dialer))]) ∧ Mod (fun _ => False) w w' := by
  rw [← e1, ← e2, ← e3]
  exact view_any h

/-- The state behind the report. -/
def toldS (L : Lay) (S : St) (i : Nat) (c : Bool) : St := if c then newsS L S i else S

set_option maxHeartbeats 2000000 in
theorem update_any {L : Lay} {S S1 : St} {w : World} (h : Hold L S w) {i : Nat} (hi : i < L.n) (hk : S.kept i = true) {f : Nat} {cap : Array Value} {c : Bool} (he : ∀ args w, (callFunc f args).run Try.prog w = .ok (.enter f args) w)
    (hf : ∀ R w1, Good L R S → Rep L { R with lk := 1 } w1 → Mod L.own w w1 → Calls Try.prog f (#[.pointer (some ⟨L.r, 0, none⟩)] ++ cap) w1 fun e w' => e = .returned (.bool c) ∧ (∃ R', Rep L R' w' ∧ R'.lk = 1 ∧ R'.rf i = true ∧ Good L { R' with lk := 0 } S1) ∧ Mod L.own w1 w') :
    Calls Try.prog 53 #[.pointer (some ⟨L.E i, 0, none⟩), .func (.func f) #[] cap] w fun e w' => e = .returned (.tuple #[recOf S1, .bool c]) ∧ Hold L (toldS L S1 i c) w' ∧ Mod L.own w w' := by
  obtain ⟨R, hr, hg⟩ := h
  have ra := hr.alloc (.cells #[.int .i64 0, .int .u64 0, .int .i64 0, .pointer none, .bool false, .bool false] 45)
  have r1 := ra.setLk 1
  have e0 := ra.ce0 hi
  have g0 := ra.cp0 hi
  have l0 := ra.ch0
  rw [hg.lk] at l0
  have f0 := ra.fh 0
  have e2 := r1.ce2t hi (by rw [hg.rf i hi]; exact hk)
  have hb := heap_alloc_new w (.cells #[.int .i64 0, .int .u64 0, .int .i64 0, .pointer none, .bool false, .bool false] 45)
  have ma := (Mod.refl L.own w).alloc (.cells #[.int .i64 0, .int .u64 0, .int .i64 0, .pointer none, .bool false, .bool false] 45)
  have HNO : Hid (¬ L.own w.heap.size) := fun o => by have := ra.own_tag o hb; simp [tag] at this
  have HR1 : Hid (Rep L { R with lk := 1 } ((w.alloc (.cells #[.int .i64 0, .int .u64 0, .int .i64 0, .pointer none, .bool false, .bool false] 45)).setCell ⟨L.h, 0, none⟩ (.int .i32 1))) := r1
  have HM1 : Hid (Mod L.own w ((w.alloc (.cells #[.int .i64 0, .int .u64 0, .int .i64 0, .pointer none, .bool false, .bool false] 45)).setCell ⟨L.h, 0, none⟩ (.int .i32 1))) := ma.setCell (Or.inl (own_h L)) _
  have HB1 : Hid (((w.alloc (.cells #[.int .i64 0, .int .u64 0, .int .i64 0, .pointer none, .bool false, .bool false] 45)).setCell ⟨L.h, 0, none⟩ (.int .i32 1)).heap[w.heap.size]? = some (.cells #[.int .i64 0, .int .u64 0, .int .i64 0, .pointer none, .bool false, .bool false] 45)) := by
    show _ = _
    rw [heap_set_other _ (fun e => HNO.out (by rw [e]; exact own_h L))]; exact hb
  have HG : Hid (Good L R S) := hg
  have HF : Hid (∀ R w1, Good L R S → Rep L { R with lk := 1 } w1 → Mod L.own w w1 → Calls Try.prog f (#[.pointer (some ⟨L.r, 0, none⟩)] ++ cap) w1 fun e w' => e = .returned (.bool c) ∧ (∃ R', Rep L R' w' ∧ R'.lk = 1 ∧ R'.rf i = true ∧ Good L { R' with lk := 0 } S1) ∧ Mod L.own w1 w') := hf
  clear r1 ra hr hg hb ma hf
  go_enter_defers Try.func53, Try.ntmps53
  go_wp2_with (go_at_call 59; refine (lock_free Try.muLib ⟨L.h, 0, none⟩ _ l0 f0).mono ?_; rintro e w' ⟨rfl, rfl⟩)
  have HK : Hid (S.kept i = true) := hk
  clear e0 g0 l0 f0 e2 hk
  generalize hN : w.heap.size = N at HNO HB1 ⊢
  have HN : Hid (w.heap.size = N) := hN
  clear hN
  generalize (w.alloc (.cells #[.int .i64 0, .int .u64 0, .int .i64 0, .pointer none, .bool false, .bool false] 45)).setCell ⟨L.h, 0, none⟩ (.int .i32 1) = w1 at HR1 HM1 HB1 ⊢
  refine (HF.out R w1 HG.out HR1.out HM1.out).mono ?_
  rintro e w2 ⟨rfl, ⟨R2, r2, lk2, rf2, g2⟩, m2⟩
  have HR2 : Hid (Rep L R2 w2) := r2
  have H2 : Hid (R2.lk = 1 ∧ R2.rf i = true ∧ Good L { R2 with lk := 0 } S1 ∧ Mod L.own w w2) := ⟨lk2, rf2, g2, HM1.out.trans m2⟩
  have HB2 : Hid (w2.heap[N]? = some (.cells #[.int .i64 0, .int .u64 0, .int .i64 0, .pointer none, .bool false, .bool false] 45)) := m2.stays HB1.out HNO.out
  have e0 := r2.ce0 hi
  have e2 := r2.ce2t hi rf2
  clear r2 lk2 rf2 g2 m2 HF HB1 HM1 HR1
  cases c
  · go_wp2_with fail
    refine (view_as (S := S1) HR2.out H2.out.2.2.1.fa H2.out.2.2.1.fg H2.out.2.2.1.dl).mono ?_
    rintro e w4 ⟨rfl, m4⟩
    have HR4 : Hid (Rep L R2 w4) := HR2.out.still m4
    have HM4 : Hid (Mod L.own w w4) := (H2.out.2.2.2).trans (m4.mono (fun _ _ h => h.elim))
    have hb4 := m4.stays HB2.out id
    have b0 := cell_of hb4 (k := 0) rfl
    have b1 := cell_of hb4 (k := 1) rfl
    have b2 := cell_of hb4 (k := 2) rfl
    have b3 := cell_of hb4 (k := 3) rfl
    have b4 := cell_of hb4 (k := 4) rfl
    have b5 := cell_of hb4 (k := 5) rfl
    have fb := frozen_of hb4
    have HB4 : Hid (w4.heap[N]? = some (.cells #[.int .i64 0, .int .u64 0, .int .i64 0, .pointer none, .bool false, .bool false] 45)) := hb4
    clear m4 hb4 e0 e2
    generalize hbb : decide (0 ≤ S1.dialer) = bb
    have HBB : Hid (decide (0 ≤ S1.dialer) = bb) := hbb
    clear hbb
    go_wp2_with fail
    have z := put6_heap HB4.out (.int .i64 S1.failures) (.int .u64 0) (.int .i64 0) (.pointer none) (.bool S1.failing) (.bool bb)
    have m5 := (Mod.refl (fun k => k = N) w4).put6 (N := N) (Or.inl rfl) (.int .i64 S1.failures) (.int .u64 0) (.int .i64 0) (.pointer none) (.bool S1.failing) (.bool bb)
    have m6 := HM4.out.put6 (N := N) (Or.inr (by rw [HN.out]; exact Nat.le_refl _)) (.int .i64 S1.failures) (.int .u64 0) (.int .i64 0) (.pointer none) (.bool S1.failing) (.bool bb)
    unfold put6 at z m5 m6
    clear b0 b1 b2 b3 b4 b5 fb
    generalize World.setCell _ ⟨N, 5, none⟩ (.bool bb) = W at z m5 m6 ⊢
    have r6 : Rep L R2 W := HR4.out.mod m5 (fun k o hk ho => by subst hk; rw [HB4.out] at ho; cases ho; simp [tag])
    have l6 := r6.ch0
    have f6 := r6.fh 0
    refine leaves_cons (f := 60) (args := #[.pointer (some ⟨L.h, 0, none⟩)]) (by simp) (by simp [go_sem]) ?_
    refine (unlock_deferred Try.muLib ⟨L.h, 0, none⟩ .returning _ (by rw [l6]; show some (Value.int .i32 R2.lk) = _; rw [H2.out.1]) f6).mono ?_
    rintro e u' w'' ⟨rfl, rfl, rfl⟩
    have z' : (W.setCell ⟨L.h, 0, none⟩ (.int .i32 0)).heap[N]? = some (.cells #[.int .i64 S1.failures, .int .u64 0, .int .i64 0, .pointer none, .bool S1.failing, .bool bb] 45) := by
      rw [heap_set_other _ (fun e => HNO.out (by rw [e]; exact own_h L))]; exact z
    have hold : Hold L (toldS L S1 i false) (W.setCell ⟨L.h, 0, none⟩ (.int .i32 0)) := ⟨_, r6.setLk 0, H2.out.2.2.1⟩
    have mod : Mod L.own w (W.setCell ⟨L.h, 0, none⟩ (.int .i32 0)) := m6.setCell (Or.inl (own_h L)) _
    clear z m5 m6 r6 l6 f6
    generalize W.setCell ⟨L.h, 0, none⟩ (.int .i32 0) = V at z' hold mod ⊢
    have k0 := cell_of z' (k := 0) rfl
    have k1 := cell_of z' (k := 1) rfl
    have k2 := cell_of z' (k := 2) rfl
    have k3 := cell_of z' (k := 3) rfl
    have k4 := cell_of z' (k := 4) rfl
    have k5 := cell_of z' (k := 5) rfl
    exact ⟨.tuple #[.agg #[.int .i64 S1.failures, .int .u64 0, .int .i64 0, .pointer none, .bool S1.failing, .bool bb], .bool false], by simp [results, Try.results53, go_sem, k0, k1, k2, k3, k4, k5], by unfold recOf; rw [HBB.out], hold, mod⟩
  · go_upto_region 8 with fail
    have HT : Hid (Links L R2 S1.kept ∧ ∀ j, j < L.n → R2.pn j = R2.en j ∧ R2.ph j = R2.en j) := by
      have g := H2.out.2.2.1
      exact ⟨links_same g.links rfl rfl, fun j hj => ⟨(g.pn j hj).trans (g.en j hj).symm, (g.ph j hj).trans (g.en j hj).symm⟩⟩
    go_region_held3 (fun w' => w'.cell? ⟨L.E i, 0, none⟩ = some (.pointer (some ⟨L.P i, 0, none⟩)) ∧ w'.cell? ⟨L.E i, 2, none⟩ = some (.pointer (some ⟨L.r, 0, none⟩)))
      (first | go_keep | exact ⟨r3.ce0 hi, r3.ce2t hi H2.out.2.1⟩)
      (first | (go_at_call 62; refine (changedBy_any HR2.out.drew HT.out.1 hi HT.out.2).mono ?_; rintro e w3 ⟨rfl, r3, m3⟩))
    have HR3 : Hid (Rep L (newsR L R2 S1.kept i L.n) w3) := r3
    have HM3 : Hid (Mod L.own w2.drew w3) := m3
    have HB3 : Hid (w3.heap[N]? = some (.cells #[.int .i64 0, .int .u64 0, .int .i64 0, .pointer none, .bool false, .bool false] 45)) := m3.stays (w := w2.drew) HB2.out HNO.out
    clear e0 e2
    have e0 := r3.ce0 hi
    have e2 := r3.ce2t hi H2.out.2.1
    clear r3 m3
    go_wp2_with fail
    refine (view_as (S := S1) HR3.out H2.out.2.2.1.fa H2.out.2.2.1.fg H2.out.2.2.1.dl).mono ?_
    rintro e w4 ⟨rfl, m4⟩
    have HR4 : Hid (Rep L (newsR L R2 S1.kept i L.n) w4) := HR3.out.still m4
    have HM4 : Hid (Mod L.own w w4) := (H2.out.2.2.2.drew.trans HM3.out).trans (m4.mono (fun _ _ h => h.elim))
    have hb4 := m4.stays HB3.out id
    have b0 := cell_of hb4 (k := 0) rfl
    have b1 := cell_of hb4 (k := 1) rfl
    have b2 := cell_of hb4 (k := 2) rfl
    have b3 := cell_of hb4 (k := 3) rfl
    have b4 := cell_of hb4 (k := 4) rfl
    have b5 := cell_of hb4 (k := 5) rfl
    have fb := frozen_of hb4
    have HB4 : Hid (w4.heap[N]? = some (.cells #[.int .i64 0, .int .u64 0, .int .i64 0, .pointer none, .bool false, .bool false] 45)) := hb4
    clear m4 hb4 e0 e2
    generalize hbb : decide (0 ≤ S1.dialer) = bb
    have HBB : Hid (decide (0 ≤ S1.dialer) = bb) := hbb
    clear hbb
    go_wp2_with fail
    have z := put6_heap HB4.out (.int .i64 S1.failures) (.int .u64 0) (.int .i64 0) (.pointer none) (.bool S1.failing) (.bool bb)
    have m5 := (Mod.refl (fun k => k = N) w4).put6 (N := N) (Or.inl rfl) (.int .i64 S1.failures) (.int .u64 0) (.int .i64 0) (.pointer none) (.bool S1.failing) (.bool bb)
    have m6 := HM4.out.put6 (N := N) (Or.inr (by rw [HN.out]; exact Nat.le_refl _)) (.int .i64 S1.failures) (.int .u64 0) (.int .i64 0) (.pointer none) (.bool S1.failing) (.bool bb)
    unfold put6 at z m5 m6
    clear b0 b1 b2 b3 b4 b5 fb
    generalize World.setCell _ ⟨N, 5, none⟩ (.bool bb) = W at z m5 m6 ⊢
    have r6 : Rep L (newsR L R2 S1.kept i L.n) W := HR4.out.mod m5 (fun k o hk ho => by subst hk; rw [HB4.out] at ho; cases ho; simp [tag])
    have l6 := r6.ch0
    have f6 := r6.fh 0
    refine leaves_cons (f := 60) (args := #[.pointer (some ⟨L.h, 0, none⟩)]) (by simp) (by simp [go_sem]) ?_
    refine (unlock_deferred Try.muLib ⟨L.h, 0, none⟩ .returning _ (by rw [l6]; show some (Value.int .i32 R2.lk) = _; rw [H2.out.1]) f6).mono ?_
    rintro e u' w'' ⟨rfl, rfl, rfl⟩
    have z' : (W.setCell ⟨L.h, 0, none⟩ (.int .i32 0)).heap[N]? = some (.cells #[.int .i64 S1.failures, .int .u64 0, .int .i64 0, .pointer none, .bool S1.failing, .bool bb] 45) := by
      rw [heap_set_other _ (fun e => HNO.out (by rw [e]; exact own_h L))]; exact z
    have hold : Hold L (toldS L S1 i true) (W.setCell ⟨L.h, 0, none⟩ (.int .i32 0)) := ⟨_, r6.setLk 0, (good_told H2.out.2.2.1 i)⟩
    have mod : Mod L.own w (W.setCell ⟨L.h, 0, none⟩ (.int .i32 0)) := m6.setCell (Or.inl (own_h L)) _
    clear z m5 m6 r6 l6 f6
    generalize W.setCell ⟨L.h, 0, none⟩ (.int .i32 0) = V at z' hold mod ⊢
    have k0 := cell_of z' (k := 0) rfl
    have k1 := cell_of z' (k := 1) rfl
    have k2 := cell_of z' (k := 2) rfl
    have k3 := cell_of z' (k := 3) rfl
    have k4 := cell_of z' (k := 4) rfl
    have k5 := cell_of z' (k := 5) rfl
    exact ⟨.tuple #[.agg #[.int .i64 S1.failures, .int .u64 0, .int .i64 0, .pointer none, .bool S1.failing, .bool bb], .bool true], by simp [results, Try.results53, go_sem, k0, k1, k2, k3, k4, k5], by unfold recOf; rw [HBB.out], hold, mod⟩

end Go.Proofs.Qxb6616570a
