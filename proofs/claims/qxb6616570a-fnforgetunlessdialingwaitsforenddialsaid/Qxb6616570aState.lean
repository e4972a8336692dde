/- The state as the laws speak of it ('St'), tied to what lies in memory ('Good', 'Hold'). Plain. -/
import Derived.Test.Qxb6616570aLinks
set_option linter.unusedSimpArgs false
set_option linter.unusedVariables false
namespace Go.Proofs.Qxb6616570a

structure St where
  kept : Nat → Bool
  dialer : Int
  offer : Int
  outc : Nat → Int
  news : Nat → Bool
  failures : Int
  failing : Bool

structure Good (L : Lay) (R : Raw) (S : St) : Prop where
  lk : R.lk = 0
  fa : R.failures = S.failures
  fg : R.failing = S.failing
  dl : R.dialer = S.dialer
  of : R.offer = S.offer
  rf : ∀ j, j < L.n → R.rf j = S.kept j
  en : ∀ j, j < L.n → R.en j = S.news j
  pn : ∀ j, j < L.n → R.pn j = S.news j
  ph : ∀ j, j < L.n → R.ph j = S.news j
  oc : ∀ j, j < L.n → R.outc j = S.outc j
  ob : ∀ j, j < L.n → 0 ≤ S.outc j ∧ S.outc j < 256
  links : Links L R S.kept
  out : ∀ j, j < L.n → S.kept j = false → R.nx j = -1
  has : R.has = true ↔ ∃ j, j < L.n ∧ S.kept j = true
  d0 : -1 ≤ S.dialer
  d1 : S.dialer < L.n
  o0 : -1 ≤ S.offer
  o1 : S.offer < L.n

def Hold (L : Lay) (S : St) (w : World) : Prop := ∃ R, Rep L R w ∧ Good L R S

/-- Where the search for entry i stands: ahead of the first entry, or behind a kept one. -/
def PosOk (L : Lay) (k : Nat → Bool) (p : Nat) (A : Addr) : Prop := (p = 0 ∧ A = ⟨L.r, 7, none⟩) ∨ ∃ q, p = q + 1 ∧ q < L.n ∧ k q = true ∧ A = ⟨L.E q, 3, none⟩

theorem isFst_here {k : Nat → Bool} {n p i : Nat} {x : Int} (h : IsFst k n p x) (hp : p ≤ i) (hi : i < n) (hk : k i = true) : ∃ a : Nat, x = (a : Int) ∧ p ≤ a ∧ a ≤ i ∧ k a = true ∧ ∀ j, p ≤ j → j < a → k j = false := by
  rcases h with ⟨_, h⟩ | ⟨a, rfl, h1, h2, h3, h4⟩
  · have := h i hp hi; rw [this] at hk; cases hk
  · refine ⟨a, rfl, h1, ?_, h3, h4⟩
    rcases Nat.lt_or_ge i a with h | h
    · have := h4 i hp h; rw [this] at hk; cases hk
    · exact h

/-- Behind i's removal what was first, and not i, is first still. -/
theorem isFst_upd {k : Nat → Bool} {n j i : Nat} {x : Int} (h : IsFst k n j x) (hx : x ≠ (i : Int)) : IsFst (upd k i false) n j x := by
  rcases h with ⟨rfl, h⟩ | ⟨a, rfl, h1, h2, h3, h4⟩
  · exact Or.inl ⟨rfl, fun l a b => by unfold upd; split; rfl; exact h l a b⟩
  · have ha : a ≠ i := fun e => hx (by rw [e])
    refine Or.inr ⟨a, rfl, h1, h2, by simp [upd, ha, h3], fun l b c => by unfold upd; split; rfl; exact h4 l b c⟩
/-- .. and where i was first, what was first behind it. -/
theorem isFst_skip {k : Nat → Bool} {n j i : Nat} {y : Int} (h : IsFst k n j (i : Int)) (hy : IsFst k n (i + 1) y) : IsFst (upd k i false) n j y := by
  rcases h with ⟨e, _⟩ | ⟨a, e, h1, h2, h3, h4⟩
  · omega
  · obtain rfl : a = i := by omega
    rcases hy with ⟨rfl, h⟩ | ⟨b, rfl, g1, g2, g3, g4⟩
    · refine Or.inl ⟨rfl, fun l b c => ?_⟩
      unfold upd; split
      · rfl
      · rename_i hne
        rcases Nat.lt_or_ge l a with d | d
        · exact h4 l b d
        · exact h l (by omega) c
    · refine Or.inr ⟨b, rfl, by omega, g2, by simp [upd, show b ≠ a by omega, g3], fun l c d => ?_⟩
      unfold upd; split
      · rfl
      · rename_i hne
        rcases Nat.lt_or_ge l a with e | e
        · exact h4 l c e
        · exact g4 l (by omega) d
/-- Only one kept entry leads to i. -/
theorem isFst_inj {k : Nat → Bool} {n p q i : Nat} (h : IsFst k n p (i : Int)) (hq : IsFst k n (q + 1) (i : Int)) (hkq : k q = true) : q + 1 ≤ p ∨ p = q + 1 ∨ p ≤ q := by omega

theorem isFst_before {k : Nat → Bool} {n p q i : Nat} (h : IsFst k n p (i : Int)) (hq : IsFst k n (q + 1) (i : Int)) (hkq : k q = true) : q + 1 ≤ p := by
  rcases h with ⟨e, _⟩ | ⟨a, e, h1, h2, h3, h4⟩
  · omega
  · obtain rfl : a = i := by omega
    rcases hq with ⟨e, _⟩ | ⟨b, e', g1, g2, g3, g4⟩
    · omega
    · obtain rfl : b = a := by omega
      rcases Nat.lt_or_ge q p with d | d
      · exact d
      · have := h4 q d (by omega); rw [this] at hkq; cases hkq

/-- THE LINKS BEHIND THE REMOVAL: at the head. -/
theorem links_head {L : Lay} {R : Raw} {k : Nat → Bool} {i : Nat} (hl : Links L R k) (hi : i < L.n) (hk : k i = true) (hf : IsFst k L.n 0 (i : Int)) : Links L { R with head := R.nx i } (upd k i false) := by
  refine ⟨isFst_skip hf (hl.nx i hi hk), fun j hj hkj => ?_⟩
  have hji : j ≠ i := fun e => by simp [upd, e] at hkj
  have hkj' : k j = true := by simpa [upd, hji] using hkj
  refine isFst_upd (hl.nx j hj hkj') (fun e => ?_)
  have := isFst_before hf (e ▸ hl.nx j hj hkj') hkj'
  omega
/-- .. behind entry q. -/
theorem links_mid {L : Lay} {R : Raw} {k : Nat → Bool} {i q : Nat} (hl : Links L R k) (hi : i < L.n) (hk : k i = true) (hq : q < L.n) (hkq : k q = true) (hf : IsFst k L.n (q + 1) (i : Int)) : Links L { R with nx := upd R.nx q (R.nx i) } (upd k i false) := by
  refine ⟨isFst_upd hl.head (fun e => ?_), fun j hj hkj => ?_⟩
  · have e' := hl.head
    rw [e] at e'
    have := isFst_before e' hf hkq
    omega
  · have hji : j ≠ i := fun e => by simp [upd, e] at hkj
    have hkj' : k j = true := by simpa [upd, hji] using hkj
    by_cases hjq : j = q
    · subst hjq
      show IsFst _ _ _ (upd R.nx j (R.nx i) j)
      rw [upd_same]
      exact isFst_skip hf (hl.nx i hi hk)
    · show IsFst _ _ _ (upd R.nx q (R.nx i) j)
      rw [upd_other _ _ hjq]
      refine isFst_upd (hl.nx j hj hkj') (fun e => ?_)
      have h1 := isFst_before hf (e ▸ hl.nx j hj hkj') hkj'
      have h2 := isFst_before (e ▸ hl.nx j hj hkj') hf hkq
      omega
theorem links_nx {L : Lay} {R : Raw} {k : Nat → Bool} {i : Nat} (hl : Links L R k) (hk : k i = false) (x : Int) : Links L { R with nx := upd R.nx i x } k :=
  ⟨hl.head, fun j hj hkj => by
    have hji : j ≠ i := fun e => by rw [e, hk] at hkj; cases hkj
    show IsFst _ _ _ (upd R.nx i x j)
    rw [upd_other _ _ hji]
    exact hl.nx j hj hkj⟩
theorem links_same {L : Lay} {R R' : Raw} {k : Nat → Bool} (hl : Links L R k) (h1 : R'.head = R.head) (h2 : R'.nx = R.nx) : Links L R' k :=
  ⟨h1 ▸ hl.head, h2 ▸ hl.nx⟩
theorem links_none {L : Lay} {R : Raw} {k : Nat → Bool} (hl : Links L R k) (h : R.head = -1) : ∀ j, j < L.n → k j = false := by
  intro j hj
  rcases hl.head with ⟨_, g⟩ | ⟨a, e, _⟩
  · exact g j (by omega) hj
  · omega
theorem links_some {L : Lay} {R : Raw} {k : Nat → Bool} (hl : Links L R k) (h : R.head ≠ -1) : ∃ a : Nat, R.head = (a : Int) ∧ a < L.n ∧ k a = true := by
  rcases hl.head with ⟨e, _⟩ | ⟨a, e, _, h2, h3, _⟩
  · exact absurd e h
  · exact ⟨a, e, h2, h3⟩
end Go.Proofs.Qxb6616570a
