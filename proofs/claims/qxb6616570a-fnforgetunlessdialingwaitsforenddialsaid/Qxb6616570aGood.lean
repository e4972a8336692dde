/- What a forget leaves, plainly. -/
import Derived.Test.Qxb6616570aState
set_option linter.unusedSimpArgs false
set_option linter.unusedVariables false
namespace Go.Proofs.Qxb6616570a

/-- What 'end' makes of the record: the dial in flight is i's and is over. -/
def endR (R : Raw) (i : Nat) : Raw :=
  if R.dialer = (i : Int) then { R with dialer := -1, offer := -1, outc := if 0 ≤ R.offer ∧ R.offer ≠ (i : Int) then upd R.outc R.offer.toNat 1 else R.outc } else R

def endS (S : St) (i : Nat) : St :=
  if S.dialer = (i : Int) then { S with dialer := -1, offer := -1, outc := if 0 ≤ S.offer ∧ S.offer ≠ (i : Int) then upd S.outc S.offer.toNat 1 else S.outc } else S

def newsS (L : Lay) (S : St) (i : Nat) : St := { S with news := nw L S.kept i L.n S.news }

def forgetS (L : Lay) (S : St) (i : Nat) : St :=
  if S.dialer = (i : Int) then newsS L (endS { S with kept := upd S.kept i false } i) i else { S with kept := upd S.kept i false }

/-- What stands between 'Good' and the memory while the lock is held and the list is being mended: all but the lock, the links, the map and the news. -/
structure Mid (L : Lay) (R : Raw) (S : St) : Prop where
  fa : R.failures = S.failures
  fg : R.failing = S.failing
  dl : R.dialer = S.dialer
  of : R.offer = S.offer
  rf : ∀ j, j < L.n → R.rf j = S.kept j
  oc : ∀ j, j < L.n → R.outc j = S.outc j
  ob : ∀ j, j < L.n → 0 ≤ S.outc j ∧ S.outc j < 256
  d0 : -1 ≤ S.dialer
  d1 : S.dialer < L.n
  o0 : -1 ≤ S.offer
  o1 : S.offer < L.n

theorem Good.mid {L : Lay} {R : Raw} {S : St} (h : Good L R S) : Mid L R S := ⟨h.fa, h.fg, h.dl, h.of, h.rf, h.oc, h.ob, h.d0, h.d1, h.o0, h.o1⟩

theorem mid_end {L : Lay} {R : Raw} {S : St} (h : Mid L R S) (i : Nat) : Mid L (endR R i) (endS S i) := by
  unfold endR endS
  rw [h.dl, h.of]
  by_cases e : S.dialer = (i : Int)
  · rw [if_pos e, if_pos e]
    have hb := h.d1
    have hb2 := h.o1
    refine ⟨h.fa, h.fg, rfl, rfl, h.rf, fun j hj => ?_, fun j hj => ?_, by simp, by show (-1 : Int) < _; omega, by simp, by show (-1 : Int) < _; omega⟩
    · show (if _ then _ else _ : Nat → Int) j = (if _ then _ else _ : Nat → Int) j
      by_cases c : 0 ≤ S.offer ∧ S.offer ≠ (i : Int)
      · rw [if_pos c, if_pos c]
        unfold upd; split
        · rfl
        · exact h.oc j hj
      · rw [if_neg c, if_neg c]; exact h.oc j hj
    · show 0 ≤ (if _ then _ else _ : Nat → Int) j ∧ (if _ then _ else _ : Nat → Int) j < 256
      by_cases c : 0 ≤ S.offer ∧ S.offer ≠ (i : Int)
      · rw [if_pos c]
        unfold upd; split
        · exact ⟨by decide, by decide⟩
        · exact h.ob j hj
      · rw [if_neg c]; exact h.ob j hj
  · rw [if_neg e, if_neg e]; exact h

theorem mid_kept {L : Lay} {R : Raw} {S : St} (h : Mid L R S) (i : Nat) (x : Int) : Mid L { R with lk := x, rf := upd R.rf i false } { S with kept := upd S.kept i false } :=
  ⟨h.fa, h.fg, h.dl, h.of, fun j hj => by show upd R.rf i false j = upd S.kept i false j; unfold upd; split; rfl; exact h.rf j hj, h.oc, h.ob, h.d0, h.d1, h.o0, h.o1⟩

theorem endR_news (R : Raw) (i : Nat) : (endR R i).en = R.en ∧ (endR R i).pn = R.pn ∧ (endR R i).ph = R.ph ∧ (endR R i).head = R.head ∧ (endR R i).nx = R.nx ∧ (endR R i).has = R.has ∧ (endR R i).lk = R.lk ∧ (endR R i).rf = R.rf := by
  unfold endR; split <;> simp

theorem endS_same (S : St) (i : Nat) : (endS S i).kept = S.kept ∧ (endS S i).news = S.news ∧ (endS S i).failures = S.failures ∧ (endS S i).failing = S.failing := by
  unfold endS; split <;> simp

/-- Joined again. -/
theorem Mid.good {L : Lay} {R R6 : Raw} {S : St} (h : Mid L R S) (e : R6 = { R with lk := 0, head := R6.head, nx := R6.nx, has := R6.has, en := R6.en, pn := R6.pn, ph := R6.ph })
    (hn : ∀ j, j < L.n → R6.en j = S.news j ∧ R6.pn j = S.news j ∧ R6.ph j = S.news j) (hl : Links L R6 S.kept) (ho : ∀ j, j < L.n → S.kept j = false → R6.nx j = -1) (hh : R6.has = true ↔ ∃ j, j < L.n ∧ S.kept j = true) : Good L R6 S := by
  have q : R6.lk = 0 ∧ R6.failures = R.failures ∧ R6.failing = R.failing ∧ R6.dialer = R.dialer ∧ R6.offer = R.offer ∧ R6.rf = R.rf ∧ R6.outc = R.outc := by
    rw [e]; simp
  obtain ⟨q1, q2, q3, q4, q5, q6, q7⟩ := q
  exact ⟨q1, by rw [q2, h.fa], by rw [q3, h.fg], by rw [q4, h.dl], by rw [q5, h.of], by rw [q6]; exact h.rf, fun j hj => (hn j hj).1, fun j hj => (hn j hj).2.1, fun j hj => (hn j hj).2.2, by rw [q7]; exact h.oc, h.ob, hl, ho, hh, h.d0, h.d1, h.o0, h.o1⟩

section
variable {L : Lay} {R R3 R4 : Raw} {S : St} {i : Nat}

theorem good_last (hg : Good L R S) (hi : i < L.n) (e3 : R3 = endR { R with lk := 1, rf := upd R.rf i false } i) (e4 : R4 = { R3 with head := R4.head, nx := R4.nx })
    (hn : ∀ j, j < L.n → S.kept j = false → R4.nx j = R3.nx j) (hl : Links L R4 (upd S.kept i false)) (hz : R4.head = -1) :
    Good L { R4 with nx := upd R4.nx i (-1), has := false, lk := 0 } (forgetS L S i) := by
  have hnone := links_none hl hz
  have m := mid_end (mid_kept hg.mid i 1) i
  obtain ⟨n1, n2, n3, _, n5, _, _, _⟩ := endR_news { R with lk := 1, rf := upd R.rf i false } i
  rw [← e3] at m n1 n2 n3 n5
  have k1 := endS_same { S with kept := upd S.kept i false } i
  have hS : Mid L R3 (forgetS L S i) ∧ (forgetS L S i).kept = upd S.kept i false ∧ ∀ j, j < L.n → (forgetS L S i).news j = S.news j := by
    unfold forgetS
    split
    · refine ⟨⟨m.fa, m.fg, m.dl, m.of, m.rf, m.oc, m.ob, m.d0, m.d1, m.o0, m.o1⟩, k1.1, fun j hj => ?_⟩
      show nw L _ i L.n _ j = _
      rw [k1.1, k1.2.1]
      simp [nw, hnone j hj]
    · rename_i c
      have e : endS { S with kept := upd S.kept i false } i = { S with kept := upd S.kept i false } := by unfold endS; rw [if_neg c]
      rw [e] at m
      exact ⟨m, rfl, fun j hj => rfl⟩
  obtain ⟨hm, hk, hw⟩ := hS
  refine Mid.good hm (by rw [e4]) (fun j hj => ?_) ?_ (fun j hj hkj => ?_) ⟨(fun h => by cases h), fun ⟨j, hj, h⟩ => by rw [hk, hnone j hj] at h; cases h⟩
  · show R4.en j = _ ∧ R4.pn j = _ ∧ R4.ph j = _
    rw [e4, hw j hj, n1, n2, n3]
    exact ⟨hg.en j hj, hg.pn j hj, hg.ph j hj⟩
  · rw [hk]; exact links_same (links_nx hl (by simp [upd]) (-1)) rfl rfl
  · show upd R4.nx i (-1) j = -1
    unfold upd; split
    · rfl
    · rename_i hji
      have h0 : S.kept j = false := by rw [hk] at hkj; simpa [upd, hji] using hkj
      rw [hn j hj h0, n5]; exact hg.out j hj h0

theorem good_more (hg : Good L R S) (hi : i < L.n) (hk : S.kept i = true) (e3 : R3 = endR { R with lk := 1, rf := upd R.rf i false } i) (e4 : R4 = { R3 with head := R4.head, nx := R4.nx })
    (hn : ∀ j, j < L.n → S.kept j = false → R4.nx j = R3.nx j) (hl : Links L R4 (upd S.kept i false)) (hz : R4.head ≠ -1) (hd : S.dialer ≠ (i : Int)) :
    Good L { R4 with nx := upd R4.nx i (-1), lk := 0 } (forgetS L S i) := by
  have m := mid_end (mid_kept hg.mid i 1) i
  obtain ⟨n1, n2, n3, _, n5, n6, _, _⟩ := endR_news { R with lk := 1, rf := upd R.rf i false } i
  rw [← e3] at m n1 n2 n3 n5 n6
  have e : endS { S with kept := upd S.kept i false } i = { S with kept := upd S.kept i false } := by unfold endS; rw [if_neg hd]
  rw [e] at m
  have ef : forgetS L S i = { S with kept := upd S.kept i false } := by unfold forgetS; rw [if_neg hd]
  rw [ef]
  obtain ⟨a, _, ha, hka⟩ := links_some hl hz
  refine Mid.good m (by rw [e4]) (fun j hj => ?_) (links_same (links_nx hl (by simp [upd]) (-1)) rfl rfl) (fun j hj hkj => ?_) ⟨fun _ => ⟨a, ha, hka⟩, fun _ => ?_⟩
  · show R4.en j = _ ∧ R4.pn j = _ ∧ R4.ph j = _
    rw [e4, n1, n2, n3]
    exact ⟨hg.en j hj, hg.pn j hj, hg.ph j hj⟩
  · show upd R4.nx i (-1) j = -1
    unfold upd; split
    · rfl
    · rename_i hji
      have h0 : S.kept j = false := by simpa [upd, hji] using hkj
      rw [hn j hj h0, n5]; exact hg.out j hj h0
  · show R4.has = true
    rw [e4, n6]; exact hg.has.2 ⟨i, hi, hk⟩

theorem good_news (hg : Good L R S) (hi : i < L.n) (hk : S.kept i = true) (e3 : R3 = endR { R with lk := 1, rf := upd R.rf i false } i) (e4 : R4 = { R3 with head := R4.head, nx := R4.nx })
    (hn : ∀ j, j < L.n → S.kept j = false → R4.nx j = R3.nx j) (hl : Links L R4 (upd S.kept i false)) (hz : R4.head ≠ -1) (hd : S.dialer = (i : Int)) :
    Good L { newsR L { R4 with nx := upd R4.nx i (-1) } (upd S.kept i false) i L.n with lk := 0 } (forgetS L S i) := by
  have m := mid_end (mid_kept hg.mid i 1) i
  obtain ⟨n1, n2, n3, _, n5, n6, _, _⟩ := endR_news { R with lk := 1, rf := upd R.rf i false } i
  rw [← e3] at m n1 n2 n3 n5 n6
  have k1 := endS_same { S with kept := upd S.kept i false } i
  have ef : forgetS L S i = newsS L (endS { S with kept := upd S.kept i false } i) i := by unfold forgetS; rw [if_pos hd]
  have hkk : (forgetS L S i).kept = upd S.kept i false := by rw [ef]; exact k1.1
  have m' : Mid L R3 (forgetS L S i) := by rw [ef]; exact ⟨m.fa, m.fg, m.dl, m.of, m.rf, m.oc, m.ob, m.d0, m.d1, m.o0, m.o1⟩
  obtain ⟨a, _, ha, hka⟩ := links_some hl hz
  refine Mid.good m' (by rw [e4]; rfl) (fun j hj => ?_) ?_ (fun j hj hkj => ?_) ⟨fun _ => ⟨a, ha, by rw [hkk]; exact hka⟩, fun _ => ?_⟩
  · have hw : (forgetS L S i).news = nw L (upd S.kept i false) i L.n S.news := by
      rw [ef]; show nw L _ i L.n _ = _; rw [k1.1, k1.2.1]
    rw [hw]
    have u : ∀ f : Nat → Bool, f j = S.news j → nw L (upd S.kept i false) i L.n f j = nw L (upd S.kept i false) i L.n S.news j := fun f hf => by unfold nw; rw [hf]
    exact ⟨u _ (by rw [e4]; show R3.en j = _; rw [n1]; exact hg.en j hj), u _ (by rw [e4]; show R3.pn j = _; rw [n2]; exact hg.pn j hj), u _ (by rw [e4]; show R3.ph j = _; rw [n3]; exact hg.ph j hj)⟩
  · rw [hkk]; exact links_same (links_nx hl (by simp [upd]) (-1)) rfl rfl
  · show upd R4.nx i (-1) j = -1
    unfold upd; split
    · rfl
    · rename_i hji
      have h0 : S.kept j = false := by rw [hkk] at hkj; simpa [upd, hji] using hkj
      rw [hn j hj h0, n5]; exact hg.out j hj h0
  · show R4.has = true
    rw [e4, n6]; exact hg.has.2 ⟨i, hi, hk⟩
end
end Go.Proofs.Qxb6616570a
