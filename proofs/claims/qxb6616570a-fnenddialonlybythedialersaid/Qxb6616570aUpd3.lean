/- (*Entry).EndDial, and its closure. -/
import Derived.Test.Qxb6616570aUpd2
set_option linter.unusedSimpArgs false
set_option linter.unusedVariables false
namespace Go.Proofs.Qxb6616570a
open Go.RowKit

attribute [local go_sem] eq37 ne37 ne37n eq60 Pl_drew Pl_alloc Pl_setCell

theorem Hold.still {L : Lay} {S : St} {w w' : World} (h : Hold L S w) (m : Mod (fun _ => False) w w') : Hold L S w' := by
  obtain ⟨R, hr, hg⟩ := h
  exact ⟨R, hr.still m, hg⟩
theorem Hold.mod {L : Lay} {S : St} {w w' : World} (h : Hold L S w) {M : Nat → Prop} (hm : Mod M w w')
    (hM : ∀ k o, M k → w.heap[k]? = some o → tag o ≠ 99 ∧ tag o ≠ 0 ∧ tag o ≠ 87 ∧ tag o ≠ 107 ∧ tag o ≠ 110 ∧ tag o ≠ 61 ∧ tag o ≠ 38) : Hold L S w' := by
  obtain ⟨R, hr, hg⟩ := h
  exact ⟨R, hr.mod hm hM, hg⟩
theorem heap_old {w : World} {b : Nat} {x : Obj} (h : w.heap[b]? = some x) (o : Obj) : (w.alloc o).heap[b]? = some x := (Below.heap_alloc _ _ _ (heap_lt h)).trans h
theorem Hold.own_tag {L : Lay} {S : St} {w : World} (h : Hold L S w) {k : Nat} (hk : L.own k) {o : Obj} (ho : w.heap[k]? = some o) : tag o = 99 ∨ tag o = 0 ∨ tag o = 87 ∨ tag o = 107 ∨ tag o = 110 := by
  obtain ⟨R, hr, hg⟩ := h
  exact hr.own_tag hk ho
theorem Hold.stays {L : Lay} {S : St} {w w' : World} (h : Hold L S w) (m : Mod L.own w w') {k : Nat} {o : Obj} (ho : w.heap[k]? = some o) (ht : ¬ (tag o = 99 ∨ tag o = 0 ∨ tag o = 87 ∨ tag o = 107 ∨ tag o = 110)) : w'.heap[k]? = some o :=
  m.stays ho (fun hk => ht (h.own_tag hk ho))

set_option maxHeartbeats 400000 in
theorem endClo {L : Lay} {R : Raw} {w : World} (h : Rep L R w) {i : Nat} (hi : i < L.n) (hd0 : -1 ≤ R.dialer) (hd1 : R.dialer < L.n) (ho0 : -1 ≤ R.offer) (ho1 : R.offer < L.n) {b : Nat} (hb : w.cell? ⟨b, 0, none⟩ = some (.pointer (some ⟨L.E i, 0, none⟩))) :
    Calls Try.prog 54 #[.pointer (some ⟨L.r, 0, none⟩), .pointer (some ⟨b, 0, none⟩)] w fun e w' => e = .returned (.bool (decide (R.dialer = (i : Int)))) ∧ Rep L (endR R i) w' ∧ Mod L.own w w' := by
  generalize hc : decide (R.dialer = (i : Int)) = c
  have HE := end_any h hi hd0 hd1 ho0 ho1 c (by rw [← hc]; simp)
  have HE' : Hid (Calls Try.prog 55 #[.pointer (some ⟨L.E i, 0, none⟩), .pointer (some ⟨L.r, 0, none⟩), .bool false] w fun e w' => e = .returned (.bool c) ∧ Rep L (endR R i) w' ∧ Mod L.own w w') := HE
  clear HE h hd0 hd1 ho0 ho1 hc
  go_enter Try.func54, Try.ntmps54
  go_wp2_with fail
  refine Calls.mono HE'.out ?_
  rintro e w1 ⟨rfl, r1, m1⟩
  have H1 : Hid (Rep L (endR R i) w1 ∧ Mod L.own w w1) := ⟨r1, m1⟩
  clear r1 m1 hb
  go_wp2
  go_ret
  exact ⟨rfl, H1.out⟩

theorem good_ended {L : Lay} {R : Raw} {S : St} (h : Good L R S) (i : Nat) : Good L { endR { R with lk := 1 } i with lk := 0 } (endS S i) := by
  have m : Mid L { R with lk := 1 } S := ⟨h.fa, h.fg, h.dl, h.of, h.rf, h.oc, h.ob, h.d0, h.d1, h.o0, h.o1⟩
  obtain ⟨n1, n2, n3, n4, n5, n6, n7, n8⟩ := endR_news { R with lk := 1 } i
  obtain ⟨k1, k2, _, _⟩ := endS_same S i
  refine Mid.good (mid_end m i) (by rfl) (fun j hj => ?_) (by rw [k1]; exact links_same h.links n4 n5) (fun j hj hk => ?_) ?_
  · show (endR _ _).en j = _ ∧ (endR _ _).pn j = _ ∧ (endR _ _).ph j = _
    rw [n1, n2, n3, k2]
    exact ⟨h.en j hj, h.pn j hj, h.ph j hj⟩
  · show (endR _ _).nx j = _
    rw [n5]; rw [k1] at hk; exact h.out j hj hk
  · show (endR _ _).has = true ↔ _
    rw [n6, k1]; exact h.has

/-- What EndDial by entry i leaves. -/
def endDialS (L : Lay) (S : St) (i : Nat) : St := toldS L (endS S i) i (decide (S.dialer = (i : Int)))

set_option maxHeartbeats 2000000 in
theorem endDial_any {L : Lay} {S : St} {w : World} (h : Hold L S w) {i : Nat} (hi : i < L.n) (hk : S.kept i = true) :
    Calls Try.prog 17 #[.pointer (some ⟨L.E i, 0, none⟩)] w fun e w' => e = .returned (recOf (endS S i)) ∧ Hold L (endDialS L S i) w' ∧ Mod L.own w w' := by
  have hmf : ∀ fn first cap w, (Instr.makeFunc fn first cap).run Try.prog w = .ok (.func fn first cap) w := fun _ _ _ _ => rfl
  go_enter Try.func17, Try.ntmps17
  go_wp2_with fail
  have hbx : ((w.alloc (.cells #[.pointer (some ⟨L.E i, 0, none⟩)] 37)).alloc (.cells #[.int .i64 0, .int .u64 0, .int .i64 0, .pointer none, .bool false, .bool false] 45)).heap[w.heap.size]? = some (.cells #[.pointer (some ⟨L.E i, 0, none⟩)] 37) :=
    (Below.heap_alloc _ _ _ (by simp)).trans (heap_alloc_new w _)
  have hrs : ((w.alloc (.cells #[.pointer (some ⟨L.E i, 0, none⟩)] 37)).alloc (.cells #[.int .i64 0, .int .u64 0, .int .i64 0, .pointer none, .bool false, .bool false] 45)).heap[w.heap.size + 1]? = some (.cells #[.int .i64 0, .int .u64 0, .int .i64 0, .pointer none, .bool false, .bool false] 45) := by
    have e := heap_alloc_new (w.alloc (.cells #[.pointer (some ⟨L.E i, 0, none⟩)] 37)) (.cells #[.int .i64 0, .int .u64 0, .int .i64 0, .pointer none, .bool false, .bool false] 45)
    rw [World.size_alloc] at e
    exact e
  have ms := ((Mod.refl (fun _ => False) w).alloc (.cells #[.pointer (some ⟨L.E i, 0, none⟩)] 37)).alloc (.cells #[.int .i64 0, .int .u64 0, .int .i64 0, .pointer none, .bool false, .bool false] 45)
  have H2 : Hid (Hold L S ((w.alloc (.cells #[.pointer (some ⟨L.E i, 0, none⟩)] 37)).alloc (.cells #[.int .i64 0, .int .u64 0, .int .i64 0, .pointer none, .bool false, .bool false] 45))) := h.still ms
  have HM : Hid (Mod (fun _ => False) w ((w.alloc (.cells #[.pointer (some ⟨L.E i, 0, none⟩)] 37)).alloc (.cells #[.int .i64 0, .int .u64 0, .int .i64 0, .pointer none, .bool false, .bool false] 45))) := ms
  clear ms h
  generalize (w.alloc (.cells #[.pointer (some ⟨L.E i, 0, none⟩)] 37)).alloc (.cells #[.int .i64 0, .int .u64 0, .int .i64 0, .pointer none, .bool false, .bool false] 45) = w2 at hbx hrs H2 HM ⊢
  refine (update_any (S1 := endS S i) (c := decide (S.dialer = (i : Int))) H2.out hi hk Try.call54 ?_).mono ?_
  · intro R w1 hg hr hm
    have hd : R.dialer = S.dialer := hg.dl
    have ho : R.offer = S.offer := hg.of
    refine (endClo hr hi (by show -1 ≤ R.dialer; rw [hd]; exact hg.d0) (by show R.dialer < _; rw [hd]; exact hg.d1) (by show -1 ≤ R.offer; rw [ho]; exact hg.o0) (by show R.offer < _; rw [ho]; exact hg.o1) (cell_of (H2.out.stays hm hbx (by simp [tag])) rfl)).mono ?_
    rintro e w' ⟨rfl, r', m'⟩
    refine ⟨by show Ending.returned (.bool (decide (R.dialer = _))) = _; rw [hd], ⟨_, r', (endR_news _ _).2.2.2.2.2.2.1, ?_, good_ended hg i⟩, m'⟩
    rw [(endR_news _ _).2.2.2.2.2.2.2]
    exact (hg.rf i hi).trans hk
  rintro e w3 ⟨rfl, h3, m3⟩
  have H3 : Hid (Hold L (endDialS L S i) w3 ∧ Mod L.own w w3) := ⟨h3, (HM.out.mono (fun _ _ h => h.elim)).trans m3⟩
  have hb := H2.out.stays m3 hrs (by simp [tag])
  clear hbx hrs h3 m3 H2 HM
  unfold recOf
  generalize hS1 : endS S i = S1
  generalize decide (S.dialer = (i : Int)) = c
  generalize hbb : decide (0 ≤ S1.dialer) = bb
  have HS : Hid (endS S i = S1 ∧ decide (0 ≤ S1.dialer) = bb) := ⟨hS1, hbb⟩
  clear hS1 hbb
  generalize hN : w.heap.size + 1 = N at hb ⊢
  have HN : Hid (w.heap.size + 1 = N) := hN
  clear hN
  have lt := heap_lt hb
  have ne : N ≠ w3.heap.size := by omega
  have b0 := cell_of hb (k := 0) rfl
  have b1 := cell_of hb (k := 1) rfl
  have b2 := cell_of hb (k := 2) rfl
  have b3 := cell_of hb (k := 3) rfl
  have b4 := cell_of hb (k := 4) rfl
  have b5 := cell_of hb (k := 5) rfl
  have fb := frozen_of hb
  have HB : Hid (w3.heap[N]? = some (.cells #[.int .i64 0, .int .u64 0, .int .i64 0, .pointer none, .bool false, .bool false] 45)) := hb
  clear hb
  go_wp2_with fail
  have z := put6_heap HB.out (.int .i64 S1.failures) (.int .u64 0) (.int .i64 0) (.pointer none) (.bool S1.failing) (.bool bb)
  have m5 := (Mod.refl (fun k => k = N) w3).put6 (N := N) (Or.inl rfl) (.int .i64 S1.failures) (.int .u64 0) (.int .i64 0) (.pointer none) (.bool S1.failing) (.bool bb)
  have m6 := H3.out.2.put6 (N := N) (Or.inr (by have := HN.out; omega)) (.int .i64 S1.failures) (.int .u64 0) (.int .i64 0) (.pointer none) (.bool S1.failing) (.bool bb)
  unfold put6 at z m5 m6
  clear b0 b1 b2 b3 b4 b5 fb lt ne
  generalize World.setCell _ ⟨N, 5, none⟩ (.bool bb) = W at z m5 m6 ⊢
  have h6 := Hold.mod H3.out.1 m5 (fun k o hk ho => by subst hk; rw [HB.out] at ho; cases ho; simp [tag])
  have h7 := Hold.still h6 ((Mod.refl _ _).alloc (.cells #[.int .i64 S1.failures, .int .u64 0, .int .i64 0, .pointer none, .bool S1.failing, .bool bb] 45))
  have m7 := m6.alloc (.cells #[.int .i64 S1.failures, .int .u64 0, .int .i64 0, .pointer none, .bool S1.failing, .bool bb] 45)
  have z7 := ((Mod.refl (fun _ => False) W).alloc (.cells #[.int .i64 S1.failures, .int .u64 0, .int .i64 0, .pointer none, .bool S1.failing, .bool bb] 45)).stays z id
  generalize W.alloc (.cells #[.int .i64 S1.failures, .int .u64 0, .int .i64 0, .pointer none, .bool S1.failing, .bool bb] 45) = V at h7 m7 z7 ⊢
  have k0 := cell_of z7 (k := 0) rfl
  have k1 := cell_of z7 (k := 1) rfl
  have k2 := cell_of z7 (k := 2) rfl
  have k3 := cell_of z7 (k := 3) rfl
  have k4 := cell_of z7 (k := 4) rfl
  have k5 := cell_of z7 (k := 5) rfl
  exact bodyPost_ret (v := .agg #[.int .i64 S1.failures, .int .u64 0, .int .i64 0, .pointer none, .bool S1.failing, .bool bb]) (by simp [results, Try.results17, go_sem, k0, k1, k2, k3, k4, k5]) rfl ⟨by unfold recOf; rw [HS.out.1, HS.out.2], h7, m7⟩

/- ZZupdateSet, and its closure. -/

set_option maxHeartbeats 400000 in
theorem setClo {L : Lay} {R : Raw} {w : World} (h : Rep L R w) {a b c : Nat} {f : Int} {g r : Bool} (ha : w.heap[a]? = some (.cells #[.int .i64 f] 3)) (hb : w.heap[b]? = some (.cells #[.bool g] 4)) (hc : w.heap[c]? = some (.cells #[.bool r] 4)) :
    Calls Try.prog 57 #[.pointer (some ⟨L.r, 0, none⟩), .pointer (some ⟨a, 0, none⟩), .pointer (some ⟨b, 0, none⟩), .pointer (some ⟨c, 0, none⟩)] w fun e w' => e = .returned (.bool r) ∧ Rep L { R with failures := f, failing := g } w' ∧ Mod L.own w w' := by
  have n1 : b ≠ L.r := ne_of_tag hb h.hr (by simp [tag])
  have n2 : c ≠ L.r := ne_of_tag hc h.hr (by simp [tag])
  have ca := cell_of ha (k := 0) rfl
  have cb := cell_of hb (k := 0) rfl
  have cc := cell_of hc (k := 0) rfl
  have c0 := h.cr0
  have c4 := h.cr4
  have fr := h.fr
  have H : Hid (Rep L { R with failures := f, failing := g } ((w.setCell ⟨L.r, 0, none⟩ (.int .i64 f)).setCell ⟨L.r, 4, none⟩ (.bool g))) := (h.setFailures f).setFailing g
  have HM : Hid (Mod L.own w ((w.setCell ⟨L.r, 0, none⟩ (.int .i64 f)).setCell ⟨L.r, 4, none⟩ (.bool g))) := ((Mod.refl _ _).setCell (Or.inl (own_r L)) _).setCell (Or.inl (own_r L)) _
  clear h ha hb hc
  go_enter Try.func57, Try.ntmps57
  go_wp2
  go_ret
  exact ⟨rfl, H.out, HM.out⟩

theorem good_set {L : Lay} {R : Raw} {S : St} (h : Good L R S) (f : Int) (g : Bool) : Good L { R with lk := 0, failures := f, failing := g } { S with failures := f, failing := g } :=
  ⟨rfl, rfl, rfl, h.dl, h.of, h.rf, h.en, h.pn, h.ph, h.oc, h.ob, links_same h.links rfl rfl, h.out, h.has, h.d0, h.d1, h.o0, h.o1⟩

/-- What ZZupdateSet leaves. -/
def setS (L : Lay) (S : St) (i : Nat) (f : Int) (g r : Bool) : St := toldS L { S with failures := f, failing := g } i r

set_option maxHeartbeats 2000000 in
theorem updateSet_any {L : Lay} {S : St} {w : World} (h : Hold L S w) {i : Nat} (hi : i < L.n) (hk : S.kept i = true) (f : Int) (g r : Bool) :
    Calls Try.prog 27 #[.pointer (some ⟨L.E i, 0, none⟩), .int .i64 f, .bool g, .bool r] w fun e w' => e = .returned (.tuple #[recOf { S with failures := f, failing := g }, .bool r]) ∧ Hold L (setS L S i f g r) w' ∧ Mod L.own w w' := by
  have hmf : ∀ fn first cap w, (Instr.makeFunc fn first cap).run Try.prog w = .ok (.func fn first cap) w := fun _ _ _ _ => rfl
  go_enter Try.func27, Try.ntmps27
  go_wp2_with fail
  have a0 := heap_old (heap_old (heap_old (heap_alloc_new w (.cells #[.int .i64 f] 3)) (.cells #[.bool g] 4)) (.cells #[.bool r] 4)) (.cells #[.int .i64 0, .int .u64 0, .int .i64 0, .pointer none, .bool false, .bool false] 45)
  have a1 := heap_old (heap_old (heap_alloc_new (w.alloc (.cells #[.int .i64 f] 3)) (.cells #[.bool g] 4)) (.cells #[.bool r] 4)) (.cells #[.int .i64 0, .int .u64 0, .int .i64 0, .pointer none, .bool false, .bool false] 45)
  have a2 := heap_old (heap_alloc_new ((w.alloc (.cells #[.int .i64 f] 3)).alloc (.cells #[.bool g] 4)) (.cells #[.bool r] 4)) (.cells #[.int .i64 0, .int .u64 0, .int .i64 0, .pointer none, .bool false, .bool false] 45)
  have a3 := heap_alloc_new (((w.alloc (.cells #[.int .i64 f] 3)).alloc (.cells #[.bool g] 4)).alloc (.cells #[.bool r] 4)) (.cells #[.int .i64 0, .int .u64 0, .int .i64 0, .pointer none, .bool false, .bool false] 45)
  simp only [World.size_alloc] at a1 a2 a3
  have ms := ((((Mod.refl (fun _ => False) w).alloc (.cells #[.int .i64 f] 3)).alloc (.cells #[.bool g] 4)).alloc (.cells #[.bool r] 4)).alloc (.cells #[.int .i64 0, .int .u64 0, .int .i64 0, .pointer none, .bool false, .bool false] 45)
  have H2 : Hid (Hold L S ((((w.alloc (.cells #[.int .i64 f] 3)).alloc (.cells #[.bool g] 4)).alloc (.cells #[.bool r] 4)).alloc (.cells #[.int .i64 0, .int .u64 0, .int .i64 0, .pointer none, .bool false, .bool false] 45))) := h.still ms
  have HM : Hid (Mod (fun _ => False) w ((((w.alloc (.cells #[.int .i64 f] 3)).alloc (.cells #[.bool g] 4)).alloc (.cells #[.bool r] 4)).alloc (.cells #[.int .i64 0, .int .u64 0, .int .i64 0, .pointer none, .bool false, .bool false] 45))) := ms
  clear ms h
  generalize (((w.alloc (.cells #[.int .i64 f] 3)).alloc (.cells #[.bool g] 4)).alloc (.cells #[.bool r] 4)).alloc (.cells #[.int .i64 0, .int .u64 0, .int .i64 0, .pointer none, .bool false, .bool false] 45) = w2 at a0 a1 a2 a3 H2 HM ⊢
  refine (update_any (S1 := { S with failures := f, failing := g }) (c := r) H2.out hi hk Try.call57 ?_).mono ?_
  · intro R w1 hg hr hm
    refine (setClo hr (H2.out.stays hm a0 (by simp [tag])) (H2.out.stays hm a1 (by simp [tag])) (H2.out.stays hm a2 (by simp [tag]))).mono ?_
    rintro e w' ⟨rfl, r', m'⟩
    exact ⟨rfl, ⟨_, r', rfl, (hg.rf i hi).trans hk, good_set hg f g⟩, m'⟩
  rintro e w3 ⟨rfl, h3, m3⟩
  have H3 : Hid (Hold L (setS L S i f g r) w3 ∧ Mod L.own w w3) := ⟨h3, (HM.out.mono (fun _ _ h => h.elim)).trans m3⟩
  have hb := H2.out.stays m3 a3 (by simp [tag])
  clear a0 a1 a2 a3 h3 m3 H2 HM
  unfold recOf
  generalize hS1 : ({ S with failures := f, failing := g } : St) = S1
  generalize hbb : decide (0 ≤ S1.dialer) = bb
  have HS : Hid (({ S with failures := f, failing := g } : St) = S1 ∧ decide (0 ≤ S1.dialer) = bb) := ⟨hS1, hbb⟩
  clear hS1 hbb
  generalize hN : w.heap.size + 1 + 1 + 1 = N at hb ⊢
  have HN : Hid (w.heap.size + 1 + 1 + 1 = N) := hN
  clear hN
  have b0 := cell_of hb (k := 0) rfl
  have b1 := cell_of hb (k := 1) rfl
  have b2 := cell_of hb (k := 2) rfl
  have b3 := cell_of hb (k := 3) rfl
  have b4 := cell_of hb (k := 4) rfl
  have b5 := cell_of hb (k := 5) rfl
  have fb := frozen_of hb
  have HB : Hid (w3.heap[N]? = some (.cells #[.int .i64 0, .int .u64 0, .int .i64 0, .pointer none, .bool false, .bool false] 45)) := hb
  clear hb
  go_wp2_with fail
  have z := put6_heap HB.out (.int .i64 S1.failures) (.int .u64 0) (.int .i64 0) (.pointer none) (.bool S1.failing) (.bool bb)
  have m5 := (Mod.refl (fun k => k = N) w3).put6 (N := N) (Or.inl rfl) (.int .i64 S1.failures) (.int .u64 0) (.int .i64 0) (.pointer none) (.bool S1.failing) (.bool bb)
  have m6 := H3.out.2.put6 (N := N) (Or.inr (by have := HN.out; omega)) (.int .i64 S1.failures) (.int .u64 0) (.int .i64 0) (.pointer none) (.bool S1.failing) (.bool bb)
  unfold put6 at z m5 m6
  clear b0 b1 b2 b3 b4 b5 fb
  generalize World.setCell _ ⟨N, 5, none⟩ (.bool bb) = W at z m5 m6 ⊢
  have h6 := Hold.mod H3.out.1 m5 (fun k o hk ho => by subst hk; rw [HB.out] at ho; cases ho; simp [tag])
  have k0 := cell_of z (k := 0) rfl
  have k1 := cell_of z (k := 1) rfl
  have k2 := cell_of z (k := 2) rfl
  have k3 := cell_of z (k := 3) rfl
  have k4 := cell_of z (k := 4) rfl
  have k5 := cell_of z (k := 5) rfl
  exact bodyPost_ret (v := .tuple #[.agg #[.int .i64 S1.failures, .int .u64 0, .int .i64 0, .pointer none, .bool S1.failing, .bool bb], .bool r]) (by simp [results, Try.results27, go_sem, k0, k1, k2, k3, k4, k5]) rfl ⟨by unfold recOf; rw [HS.out.1, HS.out.2], h6, m6⟩

end Go.Proofs.Qxb6616570a
