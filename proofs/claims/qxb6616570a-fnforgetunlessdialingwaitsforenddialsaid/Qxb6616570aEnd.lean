/- (*Entry).end, (*record).view, the closures. -/
import Derived.Test.Qxb6616570aMaps
import Derived.Test.Qxb6616570aAcc
import Derived.Test.Qxb6616570aGood
set_option linter.unusedSimpArgs false
set_option linter.unusedVariables false
namespace Go.Proofs.Qxb6616570a
open Go.RowKit

attribute [local go_sem] eq37 ne37 ne37n Pl_drew Pl_alloc Pl_setCell

set_option maxHeartbeats 400000 in
theorem end_no {L : Lay} {R : Raw} {w : World} (h : Rep L R w) {i : Nat} (hi : i < L.n) (hd0 : -1 ≤ R.dialer) (hd1 : R.dialer < L.n) (hne : R.dialer ≠ (i : Int)) :
    Calls Try.prog 55 #[.pointer (some ⟨L.E i, 0, none⟩), .pointer (some ⟨L.r, 0, none⟩), .bool false] w fun e w' => e = .returned (.bool false) ∧ w' = w := by
  have c5 := h.cr5
  have p1 := h.plE hi
  by_cases hn : R.dialer < 0
  · rw [ep_neg L hn] at c5
    clear h
    go_enter Try.func55, Try.ntmps55
    go_wp2
    go_ret
    exact ⟨rfl, rfl⟩
  · obtain ⟨d, hd⟩ := Int.eq_ofNat_of_zero_le (by omega : 0 ≤ R.dialer)
    rw [hd, ep_nat] at c5
    have p2 := h.plE (j := d) (by omega)
    have q := h.neE (i := d) (j := i) (by omega) hi (by omega)
    clear h hd
    go_enter Try.func55, Try.ntmps55
    go_wp2
    go_ret
    exact ⟨rfl, rfl⟩

set_option maxHeartbeats 400000 in
theorem end_yes {L : Lay} {R : Raw} {w : World} (h : Rep L R w) {i : Nat} (hi : i < L.n) (ho0 : -1 ≤ R.offer) (ho1 : R.offer < L.n) (hd : R.dialer = (i : Int)) :
    Calls Try.prog 55 #[.pointer (some ⟨L.E i, 0, none⟩), .pointer (some ⟨L.r, 0, none⟩), .bool false] w fun e w' => e = .returned (.bool true) ∧ Rep L (endR R i) w' ∧ Mod L.own w w' := by
  have c5 := h.cr5
  have c6 := h.cr6
  have p1 := h.plE hi
  have f := h.fr
  rw [hd, ep_nat] at c5
  by_cases hn : R.offer < 0
  · rw [ep_neg L hn] at c6
    have hr : Rep L (endR R i) ((w.setCell ⟨L.r, 5, none⟩ (.pointer none)).setCell ⟨L.r, 6, none⟩ (.pointer none)) := by
      have := (h.setDialer (-1)).setOffer (-1)
      rw [ep_nil] at this
      simpa [endR, hd, show ¬ (0 ≤ R.offer) by omega] using this
    have hm : Mod L.own w ((w.setCell ⟨L.r, 5, none⟩ (.pointer none)).setCell ⟨L.r, 6, none⟩ (.pointer none)) :=
      ((Mod.refl _ _).setCell (Or.inl (own_r L)) _).setCell (Or.inl (own_r L)) _
    have HR : Hid (Rep L (endR R i) ((w.setCell ⟨L.r, 5, none⟩ (.pointer none)).setCell ⟨L.r, 6, none⟩ (.pointer none))) := hr
    have HM : Hid (Mod L.own w ((w.setCell ⟨L.r, 5, none⟩ (.pointer none)).setCell ⟨L.r, 6, none⟩ (.pointer none))) := hm
    clear h hd hr hm
    go_enter Try.func55, Try.ntmps55
    go_wp2
    go_ret
    exact ⟨rfl, HR.out, HM.out⟩
  · obtain ⟨o, ho⟩ := Int.eq_ofNat_of_zero_le (by omega : 0 ≤ R.offer)
    rw [ho, ep_nat] at c6
    have p2 := h.plE (j := o) (by omega)
    by_cases hoi : o = i
    · subst hoi
      have hr : Rep L (endR R o) ((w.setCell ⟨L.r, 5, none⟩ (.pointer none)).setCell ⟨L.r, 6, none⟩ (.pointer none)) := by
        have := (h.setDialer (-1)).setOffer (-1)
        rw [ep_nil] at this
        simpa [endR, hd, ho] using this
      have hm : Mod L.own w ((w.setCell ⟨L.r, 5, none⟩ (.pointer none)).setCell ⟨L.r, 6, none⟩ (.pointer none)) :=
        ((Mod.refl _ _).setCell (Or.inl (own_r L)) _).setCell (Or.inl (own_r L)) _
      have HR : Hid (Rep L (endR R o) ((w.setCell ⟨L.r, 5, none⟩ (.pointer none)).setCell ⟨L.r, 6, none⟩ (.pointer none))) := hr
      have HM : Hid (Mod L.own w ((w.setCell ⟨L.r, 5, none⟩ (.pointer none)).setCell ⟨L.r, 6, none⟩ (.pointer none))) := hm
      clear h hd hr hm ho
      go_enter Try.func55, Try.ntmps55
      go_wp2
      go_ret
      exact ⟨rfl, HR.out, HM.out⟩
    · have q := h.neE (i := o) (j := i) (by omega) hi (by omega)
      have c7 := h.ce5 (j := o) (by omega)
      have f2 := h.fe (j := o) (by omega)
      have n1 := h.neER (j := o) (by omega)
      have hr : Rep L (endR R i) (((w.setCell ⟨L.E o, 5, none⟩ (.int .u8 1)).setCell ⟨L.r, 5, none⟩ (.pointer none)).setCell ⟨L.r, 6, none⟩ (.pointer none)) := by
        have := ((h.setOutc (i := o) (by omega) 1).setDialer (-1)).setOffer (-1)
        rw [ep_nil] at this
        simpa [endR, hd, ho, show ¬ ((o : Int) = (i : Int)) by omega] using this
      have hm : Mod L.own w (((w.setCell ⟨L.E o, 5, none⟩ (.int .u8 1)).setCell ⟨L.r, 5, none⟩ (.pointer none)).setCell ⟨L.r, 6, none⟩ (.pointer none)) :=
        (((Mod.refl _ _).setCell (Or.inl (own_E L (by omega))) _).setCell (Or.inl (own_r L)) _).setCell (Or.inl (own_r L)) _
      have HR : Hid (Rep L (endR R i) (((w.setCell ⟨L.E o, 5, none⟩ (.int .u8 1)).setCell ⟨L.r, 5, none⟩ (.pointer none)).setCell ⟨L.r, 6, none⟩ (.pointer none))) := hr
      have HM : Hid (Mod L.own w (((w.setCell ⟨L.E o, 5, none⟩ (.int .u8 1)).setCell ⟨L.r, 5, none⟩ (.pointer none)).setCell ⟨L.r, 6, none⟩ (.pointer none))) := hm
      clear h hd hr hm ho
      go_enter Try.func55, Try.ntmps55
      go_wp2
      go_ret
      exact ⟨rfl, HR.out, HM.out⟩

end Go.Proofs.Qxb6616570a
