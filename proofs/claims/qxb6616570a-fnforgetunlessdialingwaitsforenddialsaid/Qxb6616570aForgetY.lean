/- (*Entry).forget, where it forgets. -/
import Derived.Test.Qxb6616570aForget
import Derived.Deep.Cut
set_option linter.unusedSimpArgs false
set_option linter.unusedVariables false
namespace Go.Proofs.Qxb6616570a
open Go.RowKit
open Go.MuLone

attribute [local go_sem] eq37 ne37 ne37n eq60 Pl_drew Pl_alloc Pl_setCell

theorem end_any {L : Lay} {R : Raw} {w : World} (h : Rep L R w) {i : Nat} (hi : i < L.n) (hd0 : -1 ≤ R.dialer) (hd1 : R.dialer < L.n) (ho0 : -1 ≤ R.offer) (ho1 : R.offer < L.n) (b : Bool) (hb : b = true ↔ R.dialer = (i : Int)) :
    Calls Try.prog 55 #[.pointer (some ⟨L.E i, 0, none⟩), .pointer (some ⟨L.r, 0, none⟩), .bool false] w fun e w' => e = .returned (.bool b) ∧ Rep L (endR R i) w' ∧ Mod L.own w w' := by
  by_cases hd : R.dialer = (i : Int)
  · rw [hb.2 hd]; exact end_yes h hi ho0 ho1 hd
  · have : b = false := by cases b; rfl; exact absurd (hb.1 rfl) hd
    subst this
    refine (end_no h hi hd0 hd1 hd).mono ?_
    rintro e w' ⟨rfl, rfl⟩
    refine ⟨rfl, ?_, Mod.refl _ _⟩
    rw [show endR R i = R by simp [endR, hd]]
    exact h

theorem pos_cell {L : Lay} {R : Raw} {w : World} (h : Rep L R w) {k : Nat → Bool} {p : Nat} {A : Addr} (hp : PosOk L k p A) (hl : Links L R k) : ∃ x, w.cell? A = some (L.ep x) ∧ IsFst k L.n p x ∧ w.frozen? A = false := by
  rcases hp with ⟨rfl, rfl⟩ | ⟨q, rfl, hq, hk, rfl⟩
  · exact ⟨_, h.cr7, hl.head, h.fr 7⟩
  · exact ⟨_, h.ce3 hq, hl.nx q hq hk, h.fe hq 3⟩

/-- Entry i taken out of the list, by a store at the place that led to it. -/
theorem unlink {L : Lay} {R : Raw} {w : World} (h : Rep L R w) {k : Nat → Bool} {p i : Nat} {A : Addr} (hp : PosOk L k p A) (hl : Links L R k) (hi : i < L.n) (hk : k i = true) (hf : IsFst k L.n p (i : Int)) :
    ∃ R', Rep L R' (w.setCell A (L.ep (R.nx i))) ∧ Links L R' (upd k i false) ∧ Mod L.own w (w.setCell A (L.ep (R.nx i))) ∧ (∀ j, j < L.n → k j = false → R'.nx j = R.nx j) ∧
      R' = { R with head := R'.head, nx := R'.nx } := by
  rcases hp with ⟨rfl, rfl⟩ | ⟨q, rfl, hq, hkq, rfl⟩
  · exact ⟨_, h.setHead (R.nx i), links_head hl hi hk hf, (Mod.refl _ _).setCell (Or.inl (own_r L)) _, fun j _ _ => rfl, rfl⟩
  · refine ⟨_, h.setNx hq (R.nx i), links_mid hl hi hk hq hkq hf, (Mod.refl _ _).setCell (Or.inl (own_E L hq)) _, fun j hj hkj => ?_, rfl⟩
    have : j ≠ q := fun e => by rw [e, hkq] at hkj; cases hkj
    simp [upd, this]

set_option maxHeartbeats 2000000 in
theorem forget_f {L : Lay} {S : St} {w : World} (h : Hold L S w) {i : Nat} (hi : i < L.n) (hk : S.kept i = true) (b : Bool) (hb : b = true ↔ S.dialer = (i : Int)) :
    Calls Try.prog 37 #[.pointer (some ⟨L.E i, 0, none⟩), .bool false] w fun e w' => e = .returned (.bool true) ∧ Hold L (forgetS L S i) w' ∧ Mod L.own w w' := by
  obtain ⟨R, hr, hg⟩ := h
  have r1 := hr.setLk 1
  have e0 := hr.ce0 hi
  have g0 := hr.cp0 hi
  have l0 := hr.ch0
  rw [hg.lk] at l0
  have f0 := hr.fh 0
  have e2 := r1.ce2t hi (by rw [hg.rf i hi]; exact hk)
  have f2 := r1.fe hi 2
  have r2 := r1.setRf hi
  have m2 := ((Mod.refl L.own w).setCell (p := ⟨L.h, 0, none⟩) (Or.inl (own_h L)) (.int .i32 1)).setCell (p := ⟨L.E i, 2, none⟩) (Or.inl (own_E L hi)) (.pointer none)
  have HR2 : Hid (Rep L { R with lk := 1, rf := upd R.rf i false } ((w.setCell ⟨L.h, 0, none⟩ (.int .i32 1)).setCell ⟨L.E i, 2, none⟩ (.pointer none))) := r2
  have HM2 : Hid (Mod L.own w ((w.setCell ⟨L.h, 0, none⟩ (.int .i32 1)).setCell ⟨L.E i, 2, none⟩ (.pointer none))) := m2
  have HG : Hid (Good L R S) := hg
  have HB : Hid (b = true ↔ S.dialer = (i : Int)) := hb
  clear r1 r2 hr hg m2 hb
  go_enter_defers Try.func37, Try.ntmps37
  go_wp2_with (go_at_call 59; refine (lock_free Try.muLib ⟨L.h, 0, none⟩ _ l0 f0).mono ?_; rintro e w' ⟨rfl, rfl⟩)
  refine (end_any HR2.out hi (by show -1 ≤ R.dialer; rw [HG.out.dl]; exact HG.out.d0) (by show R.dialer < _; rw [HG.out.dl]; exact HG.out.d1) (by show -1 ≤ R.offer; rw [HG.out.of]; exact HG.out.o0) (by show R.offer < _; rw [HG.out.of]; exact HG.out.o1) b (by show _ ↔ R.dialer = _; rw [HG.out.dl]; exact HB.out)).mono ?_
  rintro e w3 ⟨rfl, r3, m3⟩
  have HR3 : Hid (Rep L (endR { R with lk := 1, rf := upd R.rf i false } i) w3) := r3
  have HM3 : Hid (Mod L.own _ w3) := m3
  clear r3 m3 e0 g0 l0 f0 e2 f2
  have hl3 : Links L (endR { R with lk := 1, rf := upd R.rf i false } i) S.kept := links_same HG.out.links (by unfold endR; split <;> rfl) (by unfold endR; split <;> rfl)
  have HL3 : Hid (Links L (endR { R with lk := 1, rf := upd R.rf i false } i) S.kept) := hl3
  have HK : Hid (S.kept i = true) := hk
  obtain ⟨R3, hR3⟩ : ∃ R3, R3 = endR { R with lk := 1, rf := upd R.rf i false } i := ⟨_, rfl⟩
  rw [← hR3] at HR3 HL3
  have HEQ : Hid (R3 = endR { R with lk := 1, rf := upd R.rf i false } i) := hR3
  clear hl3 hk hR3
  go_wp2_with fail
  go_loopg [8] (i + 1) (fun g v wr => ∃ p A, p ≤ i ∧ p + g = i + 1 ∧ v = .pointer (some A) ∧ wr = w3 ∧ PosOk L S.kept p A)
  case atStart => exact ⟨0, _, by omega, by omega, rfl, rfl, Or.inl ⟨rfl, rfl⟩⟩
  case round =>
    obtain ⟨p, A, hp, hgk, rfl, rfl, hpos⟩ := hrel
    obtain ⟨x, cA, hx, fA⟩ := pos_cell HR3.out hpos HL3.out
    obtain ⟨a, rfl, h1, h2, h3, h4⟩ := isFst_here hx hp hi HK.out
    rw [ep_nat] at cA
    have HX : Hid (IsFst S.kept L.n p (a : Int) ∧ PosOk L S.kept p A ∧ S.kept a = true) := ⟨hx, hpos, h3⟩
    have pe := HR3.out.plE (j := a) (by omega)
    have pi := HR3.out.plE hi
    clear hx hpos h3 h4
    by_cases hai : a = i
    · subst hai
      have e3 := HR3.out.ce3 hi
      rw [ep_ea] at e3
      go_upto_region 16 with fail
      obtain ⟨R4, r4, l4, m4, n4, q4⟩ := unlink HR3.out HX.out.2.1 HL3.out hi HK.out HX.out.1
      rw [ep_ea] at r4 m4
      generalize wr.setCell A (.pointer (L.ea (R3.nx a))) = w4 at r4 m4 ⊢
      clear e3 cA fA pe pi
      have HR4 : Hid (Rep L R4 w4) := r4
      have r5 := r4.setNx hi (-1)
      rw [ep_nil] at r5
      have HR5 : Hid (Rep L { R4 with nx := upd R4.nx a (-1) } (w4.setCell ⟨L.E a, 3, none⟩ (.pointer none))) := r5
      have H4 : Hid (Links L R4 (upd S.kept a false) ∧ Mod L.own wr w4 ∧ (∀ j, j < L.n → S.kept j = false → R4.nx j = R3.nx j) ∧ R4 = { R3 with head := R4.head, nx := R4.nx }) := ⟨l4, m4, n4, q4⟩
      have e3 := r4.ce3 hi
      have f3 := r4.fe hi 3
      have c7 := r5.cr7
      clear r4 r5 l4 m4 n4 q4
      by_cases hz : R4.head = -1
      · rw [show ({ R4 with nx := upd R4.nx a (-1) } : Raw).head = -1 from hz, ep_nil] at c7
        have HZ : Hid (R4.head = -1) := hz
        clear hz
        go_wp2_with fail
        have HM5 : Hid (Mod L.own w4 (w4.setCell ⟨L.E a, 3, none⟩ (.pointer none))) := (Mod.refl _ _).setCell (Or.inl (own_E L hi)) _
        generalize w4.setCell ⟨L.E a, 3, none⟩ (.pointer none) = w5 at HR5 HM5 ⊢
        clear e3 f3 c7
        have hh2 := HR5.out.ch2
        have fh := HR5.out.fh
        have he1 := HR5.out.ce1 hi
        obtain ⟨born, clk, hm⟩ := HR5.out.hm
        have hhas : ({ R4 with nx := upd R4.nx a (-1) } : Raw).has = true := by
          show R4.has = true
          rw [H4.out.2.2.2, HEQ.out, (endR_news _ _).2.2.2.2.2.1]
          exact HG.out.has.2 ⟨a, hi, HK.out⟩
        have qd := del_one (w := w5.drew) (m := L.m) (p := L.peer) (v := ptr L.r) (b := born) (clk := clk) (by show w5.heap[L.m]? = _; rw [hm]; unfold Lay.mO; rw [hhas]; rfl)
        clear hm hhas
        go_region
        have r6 := HR5.out.drew.setM false 0 clk
        have HR6 : Hid (Rep L { R4 with nx := upd R4.nx a (-1), has := false } (setMap w5.drew L.m (.map #[] clk))) := r6
        have HM6 : Hid (Mod L.own w5 (setMap w5.drew L.m (.map #[] clk))) := ((Mod.refl _ _).drew).setMap (own_m L) _
        clear r6 qd hh2 fh he1
        generalize setMap w5.drew L.m (.map #[] clk) = w6 at HR6 HM6 ⊢
        go_wp2_with fail
        have hh2 := HR6.out.ch2
        have hh3 := HR6.out.ch3
        have fh := HR6.out.fh 2
        have ks2 : ∀ n, ((w6.drewN n).setCell ⟨L.h, 2, none⟩ (.map (some L.m))).cell? ⟨L.h, 2, none⟩ = some (.map (some L.m)) := fun n => World.cell?_setCell_same (w6.drewN n) _ _ hh2
        have ks3 : ∀ n, ((w6.drewN n).setCell ⟨L.h, 2, none⟩ (.map (some L.m))).cell? ⟨L.h, 3, none⟩ = some (.int .i64 0) := fun n => (World.cell?_setCell_other (w6.drewN n) _ _ _ (by simp)).trans hh3
        go_region_held3 (fun w' => w'.cell? ⟨L.h, 2, none⟩ = some (.map (some L.m)) ∧ w'.cell? ⟨L.h, 3, none⟩ = some (.int .i64 0) ∧ w'.frozen? ⟨L.h, 2, none⟩ = false) (go_keep)
          (first | (go_at_call 61; refine (deleted_any L.h L.m (.map (some L.m)) _ ?_).mono ?_; (simp [*]); rintro e w' ⟨rfl, n, rfl⟩))
        go_wp2_with fail
        have r7 := (HR6.out.drewN (1 + n)).idle (b := L.h) (k := 2) hh2
        have l7 := r7.ch0
        have f7 := r7.fh 0
        refine leaves_cons (f := 60) (args := #[.pointer (some ⟨L.h, 0, none⟩)]) (by simp) (by simp [go_sem]) ?_
        refine (unlock_deferred Try.muLib ⟨L.h, 0, none⟩ .returning _ (by rw [l7]; show some (Value.int .i32 R4.lk) = _; rw [H4.out.2.2.2, HEQ.out, (endR_news _ _).2.2.2.2.2.2.1]) f7).mono ?_
        rintro e u' w'' ⟨rfl, rfl, rfl⟩
        refine ⟨_, results_tmp rfl _ _ _, rfl, ⟨_, r7.setLk 0, good_last HG.out hi HEQ.out H4.out.2.2.2 H4.out.2.2.1 H4.out.1 HZ.out⟩, ?_⟩
        exact (((((HM2.out.trans HM3.out).trans H4.out.2.1).trans HM5.out).trans HM6.out).drewN (1 + n) |>.setCell (Or.inl (own_h L)) _).setCell (Or.inl (own_h L)) _
      · obtain ⟨hd, hhd, hd1, hd2⟩ := links_some H4.out.1 hz
        rw [show ({ R4 with nx := upd R4.nx a (-1) } : Raw).head = (hd : Int) from hhd, ep_nat] at c7
        have HZ : Hid (R4.head ≠ -1) := by show R4.head ≠ -1; rw [hhd]; omega
        clear hhd hz hd1 hd2
        cases b
        · have l6 := HR5.out.ch0
          have f6 := HR5.out.fh 0
          go_wp2_with fail
          refine leaves_cons (f := 60) (args := #[.pointer (some ⟨L.h, 0, none⟩)]) (by simp) (by simp [go_sem]) ?_
          refine (unlock_deferred Try.muLib ⟨L.h, 0, none⟩ .returning _ (by rw [l6]; show some (Value.int .i32 R4.lk) = _; rw [H4.out.2.2.2, HEQ.out, (endR_news _ _).2.2.2.2.2.2.1]) f6).mono ?_
          rintro e u' w'' ⟨rfl, rfl, rfl⟩
          refine ⟨_, results_tmp rfl _ _ _, rfl, ⟨_, HR5.out.setLk 0, good_more HG.out hi HK.out HEQ.out H4.out.2.2.2 H4.out.2.2.1 H4.out.1 HZ.out (fun e => by have := HB.out.2 e; cases this)⟩, ?_⟩
          exact (((HM2.out.trans HM3.out).trans H4.out.2.1).setCell (Or.inl (own_E L hi)) _).setCell (Or.inl (own_h L)) _
        · have e0 := HR5.out.ce0 hi
          go_wp2_with fail
          refine (changedBy_any HR5.out (links_nx H4.out.1 (by simp [upd]) (-1)) hi (fun j hj => ?_)).mono ?_
          · show R4.pn j = R4.en j ∧ R4.ph j = R4.en j
            rw [H4.out.2.2.2, HEQ.out]
            obtain ⟨q1, q2, q3, _⟩ := endR_news { R with lk := 1, rf := upd R.rf a false } a
            show (endR _ _).pn j = (endR _ _).en j ∧ (endR _ _).ph j = (endR _ _).en j
            rw [q1, q2, q3]
            exact ⟨(HG.out.pn j hj).trans (HG.out.en j hj).symm, (HG.out.ph j hj).trans (HG.out.en j hj).symm⟩
          rintro e w6 ⟨rfl, r6, m6⟩
          have HR6 : Hid (Rep L (newsR L { R4 with nx := upd R4.nx a (-1) } (upd S.kept a false) a L.n) w6) := r6
          have l6 := r6.ch0
          have f6 := r6.fh 0
          have HM6 : Hid (Mod L.own _ w6) := m6
          clear r6 m6 e0 e3 f3 c7
          go_wp2_with fail
          refine leaves_cons (f := 60) (args := #[.pointer (some ⟨L.h, 0, none⟩)]) (by simp) (by simp [go_sem]) ?_
          refine (unlock_deferred Try.muLib ⟨L.h, 0, none⟩ .returning _ (by rw [l6]; show some (Value.int .i32 R4.lk) = _; rw [H4.out.2.2.2, HEQ.out, (endR_news _ _).2.2.2.2.2.2.1]) f6).mono ?_
          rintro e u' w'' ⟨rfl, rfl, rfl⟩
          refine ⟨_, results_tmp rfl _ _ _, rfl, ⟨_, HR6.out.setLk 0, good_news HG.out hi HK.out HEQ.out H4.out.2.2.2 H4.out.2.2.1 H4.out.1 HZ.out (HB.out.1 trivial)⟩, ?_⟩
          exact ((((HM2.out.trans HM3.out).trans H4.out.2.1).setCell (Or.inl (own_E L hi)) _).trans HM6.out).setCell (Or.inl (own_h L)) _
    · have q := HR3.out.neE (i := a) (j := i) (by omega) hi hai
      go_wp2
      go_roundg (i - a)
      case measure => omega
      case rel => exact ⟨a + 1, _, by omega, by omega, rfl, rfl, Or.inr ⟨a, rfl, by omega, HX.out.2.2, rfl⟩⟩

end Go.Proofs.Qxb6616570a
