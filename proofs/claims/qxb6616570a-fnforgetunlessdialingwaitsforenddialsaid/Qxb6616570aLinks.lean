/- The record's list of entries, plainly: 'first kept entry from j on'. -/
import Derived.Test.Qxb6616570aRep
set_option linter.unusedSimpArgs false
set_option linter.unusedVariables false
namespace Go.Proofs.Qxb6616570a

/-- v is the first index from j on at which k holds; -1: none. -/
def IsFst (k : Nat → Bool) (n j : Nat) (v : Int) : Prop :=
  (v = -1 ∧ ∀ i, j ≤ i → i < n → k i = false) ∨ ∃ a : Nat, v = (a : Int) ∧ j ≤ a ∧ a < n ∧ k a = true ∧ ∀ i, j ≤ i → i < a → k i = false

/-- The links of the list are those of the kept entries, in their order. -/
structure Links (L : Lay) (R : Raw) (k : Nat → Bool) : Prop where
  head : IsFst k L.n 0 R.head
  nx : ∀ j, j < L.n → k j = true → IsFst k L.n (j + 1) (R.nx j)

/-- News up to p. -/
def nw (L : Lay) (k : Nat → Bool) (i p : Nat) (f : Nat → Bool) : Nat → Bool := fun j => f j || (decide (j < p) && k j && !(j == i) && L.follow j)
def newsR (L : Lay) (R : Raw) (k : Nat → Bool) (i p : Nat) : Raw := { R with en := nw L k i p R.en, pn := nw L k i p R.pn, ph := nw L k i p R.ph }

theorem nw_zero (L : Lay) (k : Nat → Bool) (i : Nat) (f : Nat → Bool) : nw L k i 0 f = f := by funext j; simp [nw]
theorem newsR_zero (L : Lay) (R : Raw) (k : Nat → Bool) (i : Nat) : newsR L R k i 0 = R := by simp [newsR, nw_zero]

theorem nw_skip {L : Lay} {k : Nat → Bool} {i p q : Nat} (f : Nat → Bool) (hpq : p ≤ q) (h : ∀ j, p ≤ j → j < q → (k j = false ∨ j = i ∨ L.follow j = false ∨ f j = true)) : nw L k i q f = nw L k i p f := by
  funext j
  unfold nw
  by_cases h1 : j < p
  · simp [h1, show j < q by omega]
  · by_cases h2 : j < q
    · rcases h j (by omega) h2 with e | e | e | e <;> simp [h1, h2, e]
    · simp [h1, h2]
theorem nw_step {L : Lay} {k : Nat → Bool} {i p a : Nat} (f : Nat → Bool) (hpa : p ≤ a) (h : ∀ j, p ≤ j → j < a → k j = false) (hk : k a = true) (hi : a ≠ i) (hf : L.follow a = true) : nw L k i (a + 1) f = upd (nw L k i p f) a true := by
  funext j
  unfold nw upd
  by_cases e : j = a
  · subst e; simp [hk, hi, hf]
  · by_cases h1 : j < p
    · simp [e, h1, show j < a + 1 by omega]
    · by_cases h2 : j < a + 1
      · simp [e, h1, h2, h j (by omega) (by omega)]
      · simp [e, h1, h2]
theorem newsR_skip {L : Lay} {R : Raw} {k : Nat → Bool} {i p q : Nat} (hpq : p ≤ q) (h : ∀ j, p ≤ j → j < q → (k j = false ∨ j = i ∨ L.follow j = false ∨ (R.en j = true ∧ R.pn j = true ∧ R.ph j = true))) : newsR L R k i q = newsR L R k i p := by
  unfold newsR
  rw [nw_skip R.en hpq (fun j a b => by rcases h j a b with e | e | e | ⟨e, _, _⟩ <;> simp [e]), nw_skip R.pn hpq (fun j a b => by rcases h j a b with e | e | e | ⟨_, e, _⟩ <;> simp [e]), nw_skip R.ph hpq (fun j a b => by rcases h j a b with e | e | e | ⟨_, _, e⟩ <;> simp [e])]
theorem newsR_step {L : Lay} {R : Raw} {k : Nat → Bool} {i p a : Nat} (hpa : p ≤ a) (h : ∀ j, p ≤ j → j < a → k j = false) (hk : k a = true) (hi : a ≠ i) (hf : L.follow a = true) :
    newsR L R k i (a + 1) = { newsR L R k i p with en := upd (newsR L R k i p).en a true, pn := upd (newsR L R k i p).pn a true, ph := upd (newsR L R k i p).ph a true } := by
  unfold newsR
  rw [nw_step R.en hpa h hk hi hf, nw_step R.pn hpa h hk hi hf, nw_step R.ph hpa h hk hi hf]
theorem newsR_skip1 {L : Lay} {R : Raw} {k : Nat → Bool} {i p a : Nat} (hpa : p ≤ a) (h : ∀ j, p ≤ j → j < a → k j = false) (hc : a = i ∨ L.follow a = false ∨ (R.en a = true ∧ R.pn a = true ∧ R.ph a = true)) :
    newsR L R k i (a + 1) = newsR L R k i p := by
  refine newsR_skip (by omega) (fun j b c => ?_)
  rcases Nat.lt_or_ge j a with d | d
  · exact Or.inl (h j b d)
  · obtain rfl : j = a := by omega
    exact Or.inr hc
end Go.Proofs.Qxb6616570a
