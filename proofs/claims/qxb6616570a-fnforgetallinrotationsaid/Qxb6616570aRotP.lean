/- Forgetting all entries in rotation, plainly. -/
import Derived.Test.Qxb6616570aGood
import Derived.Test.Qxb6616570aFreshS
set_option linter.unusedSimpArgs false
set_option linter.unusedVariables false
namespace Go.Proofs.Qxb6616570a

/-- Two states that agree on the entries. -/
structure Same (n : Nat) (S T : St) : Prop where
  kept : ∀ j, j < n → S.kept j = T.kept j
  dialer : S.dialer = T.dialer
  offer : S.offer = T.offer
  outc : ∀ j, j < n → S.outc j = T.outc j
  news : ∀ j, j < n → S.news j = T.news j
  failures : S.failures = T.failures
  failing : S.failing = T.failing

theorem IsFst.congr {k l : Nat → Bool} {n j : Nat} {x : Int} (h : IsFst k n j x) (e : ∀ i, i < n → k i = l i) : IsFst l n j x := by
  rcases h with ⟨rfl, h⟩ | ⟨a, rfl, h1, h2, h3, h4⟩
  · exact Or.inl ⟨rfl, fun i a b => by rw [← e i b]; exact h i a b⟩
  · exact Or.inr ⟨a, rfl, h1, h2, by rw [← e a h2]; exact h3, fun i b c => by rw [← e i (by omega)]; exact h4 i b c⟩

theorem Good.same {L : Lay} {R : Raw} {S T : St} (h : Good L R S) (e : Same L.n S T) : Good L R T := by
  refine ⟨h.lk, h.fa.trans e.failures, h.fg.trans e.failing, h.dl.trans e.dialer, h.of.trans e.offer, fun j hj => (h.rf j hj).trans (e.kept j hj), fun j hj => (h.en j hj).trans (e.news j hj), fun j hj => (h.pn j hj).trans (e.news j hj), fun j hj => (h.ph j hj).trans (e.news j hj), fun j hj => (h.oc j hj).trans (e.outc j hj), fun j hj => by rw [← e.outc j hj]; exact h.ob j hj,
    ⟨h.links.head.congr e.kept, fun j hj hk => (h.links.nx j hj (by rw [e.kept j hj]; exact hk)).congr e.kept⟩, fun j hj hk => h.out j hj (by rw [e.kept j hj]; exact hk), h.has.trans ⟨fun ⟨j, hj, hk⟩ => ⟨j, hj, by rw [← e.kept j hj]; exact hk⟩, fun ⟨j, hj, hk⟩ => ⟨j, hj, by rw [e.kept j hj]; exact hk⟩⟩, by rw [← e.dialer]; exact h.d0, by rw [← e.dialer]; exact h.d1, by rw [← e.offer]; exact h.o0, by rw [← e.offer]; exact h.o1⟩
theorem Hold.same {L : Lay} {S T : St} {w : World} (h : Hold L S w) (e : Same L.n S T) : Hold L T w := by
  obtain ⟨R, hr, hg⟩ := h; exact ⟨R, hr, hg.same e⟩

theorem mod_two {a n : Nat} (h : a < 2 * n) : a % n = if a < n then a else a - n := by
  by_cases c : a < n
  · rw [if_pos c, Nat.mod_eq_of_lt c]
  · rw [if_neg c, Nat.mod_eq_sub_mod (by omega), Nat.mod_eq_of_lt (by omega)]

/-- Where entry j stands in the rotation that begins at i. -/
def rpos (n i j : Nat) : Nat := (j + n - i) % n
def rat (n i k : Nat) : Nat := (i + k) % n

theorem rpos_if {n i j : Nat} (hi : i < n) (hj : j < n) : rpos n i j = if i ≤ j then j - i else j + n - i := by
  unfold rpos
  rw [mod_two (by omega)]
  by_cases c : i ≤ j
  · rw [if_pos c, if_neg (by omega)]; omega
  · rw [if_neg c, if_pos (by omega)]
theorem rat_if {n i k : Nat} (hi : i < n) (hk : k < n) : rat n i k = if i + k < n then i + k else i + k - n := by
  unfold rat; rw [mod_two (by omega)]
theorem rat_lt {n i k : Nat} (hi : i < n) (hk : k < n) : rat n i k < n := by rw [rat_if hi hk]; split <;> omega
theorem rpos_lt {n i j : Nat} (hi : i < n) (hj : j < n) : rpos n i j < n := by rw [rpos_if hi hj]; split <;> omega
theorem rpos_rat {n i k : Nat} (hi : i < n) (hk : k < n) : rpos n i (rat n i k) = k := by
  rw [rpos_if hi (rat_lt hi hk), rat_if hi hk]; split <;> split <;> omega
theorem rpos_inj {n i j l : Nat} (hi : i < n) (hj : j < n) (hl : l < n) (h : rpos n i j = rpos n i l) : j = l := by
  rw [rpos_if hi hj, rpos_if hi hl] at h
  split at h <;> split at h <;> omega

/-- The state once k entries have been forgotten. -/
def rotS (L : Lay) (N : Nat → Bool) (i : Nat) (d o f : Int) (g : Bool) (k : Nat) : St :=
  if 0 ≤ d ∧ rpos L.n i d.toNat < k then
    { kept := fun j => !decide (rpos L.n i j < k), dialer := -1, offer := -1, outc := if 0 ≤ o ∧ o ≠ d then upd (fun _ => 0) o.toNat 1 else fun _ => 0,
      news := fun j => N j || (decide (rpos L.n i d.toNat < rpos L.n i j) && L.follow j), failures := f, failing := g }
  else { kept := fun j => !decide (rpos L.n i j < k), dialer := d, offer := o, outc := fun _ => 0, news := N, failures := f, failing := g }

theorem rot_start (L : Lay) (N : Nat → Bool) (i : Nat) (d o f : Int) (g : Bool) : Same L.n (freshS N d o f g L.n) (rotS L N i d o f g 0) := by
  unfold rotS freshS
  rw [if_neg (by omega)]
  exact ⟨fun j hj => by simp [hj], rfl, rfl, fun j hj => rfl, fun j hj => by simp [hj], rfl, rfl⟩

theorem rot_kept {L : Lay} {N : Nat → Bool} {i : Nat} {d o f : Int} {g : Bool} {k : Nat} (j : Nat) : (rotS L N i d o f g k).kept j = !decide (rpos L.n i j < k) := by
  unfold rotS; split <;> rfl

theorem rot_step {L : Lay} {N : Nat → Bool} {i : Nat} {d o f : Int} {g : Bool} {k : Nat} (hi : i < L.n) (hk : k < L.n) (hd0 : -1 ≤ d) (hd1 : d < L.n) :
    Same L.n (forgetS L (rotS L N i d o f g k) (rat L.n i k)) (rotS L N i d o f g (k + 1)) := by
  have he := rat_lt hi hk
  have hp := rpos_rat hi hk
  have keptEq : ∀ (q : Nat → Bool), (∀ j, q j = !decide (rpos L.n i j < k)) → ∀ j, j < L.n → upd q (rat L.n i k) false j = !decide (rpos L.n i j < k + 1) := by
    intro q hq j hj
    unfold upd
    split
    · rename_i e; subst e; simp [hp]
    · rename_i e
      rw [hq j]
      have : rpos L.n i j ≠ k := fun c => e (rpos_inj hi hj he (by rw [c, hp]))
      congr 2
      apply propext; omega
  by_cases c1 : 0 ≤ d ∧ rpos L.n i d.toNat < k
  · -- the dialer has gone already
    have e1 : rotS L N i d o f g k = { kept := fun j => !decide (rpos L.n i j < k), dialer := -1, offer := -1, outc := if 0 ≤ o ∧ o ≠ d then upd (fun _ => 0) o.toNat 1 else fun _ => 0, news := fun j => N j || (decide (rpos L.n i d.toNat < rpos L.n i j) && L.follow j), failures := f, failing := g } := by
      unfold rotS; rw [if_pos c1]
    have e2 : rotS L N i d o f g (k + 1) = { kept := fun j => !decide (rpos L.n i j < k + 1), dialer := -1, offer := -1, outc := if 0 ≤ o ∧ o ≠ d then upd (fun _ => 0) o.toNat 1 else fun _ => 0, news := fun j => N j || (decide (rpos L.n i d.toNat < rpos L.n i j) && L.follow j), failures := f, failing := g } := by
      unfold rotS; rw [if_pos ⟨c1.1, by omega⟩]
    rw [e1, e2]
    unfold forgetS
    rw [if_neg (by show ¬ (-1 : Int) = _; omega)]
    exact ⟨fun j hj => keptEq _ (fun _ => rfl) j hj, rfl, rfl, fun j hj => rfl, fun j hj => rfl, rfl, rfl⟩
  · have e1 : rotS L N i d o f g k = { kept := fun j => !decide (rpos L.n i j < k), dialer := d, offer := o, outc := fun _ => 0, news := N, failures := f, failing := g } := by
      unfold rotS; rw [if_neg c1]
    by_cases c2 : d = ((rat L.n i k : Nat) : Int)
    · -- the dialer goes now
      have hdt : d.toNat = rat L.n i k := by omega
      have e2 : rotS L N i d o f g (k + 1) = { kept := fun j => !decide (rpos L.n i j < k + 1), dialer := -1, offer := -1, outc := if 0 ≤ o ∧ o ≠ d then upd (fun _ => 0) o.toNat 1 else fun _ => 0, news := fun j => N j || (decide (rpos L.n i d.toNat < rpos L.n i j) && L.follow j), failures := f, failing := g } := by
        unfold rotS; rw [if_pos ⟨by omega, by rw [hdt, hp]; omega⟩]
      rw [e1, e2]
      unfold forgetS
      rw [if_pos (by show d = _; exact c2)]
      unfold newsS endS
      rw [if_pos (by show d = _; exact c2)]
      refine ⟨fun j hj => keptEq _ (fun _ => rfl) j hj, rfl, rfl, fun j hj => by show (if 0 ≤ o ∧ o ≠ _ then _ else _ : Nat → Int) j = _; rw [← c2], fun j hj => ?_, rfl, rfl⟩
      show nw L (upd (fun j => !decide (rpos L.n i j < k)) (rat L.n i k) false) (rat L.n i k) L.n N j = _
      unfold nw
      rw [keptEq _ (fun _ => rfl) j hj, hdt, hp]
      have q : (j == rat L.n i k) = decide (rpos L.n i j = k) := by
        rw [Bool.eq_iff_iff]
        simp only [beq_iff_eq, decide_eq_true_eq]
        exact ⟨fun c => by rw [c, hp], fun c => rpos_inj hi hj he (by rw [c, hp])⟩
      rw [q]
      simp only [hj, decide_true, Bool.true_and]
      congr 2
      rw [Bool.eq_iff_iff]
      simp only [Bool.and_eq_true, Bool.not_eq_true', decide_eq_false_iff_not, decide_eq_true_eq]
      omega
    · have e2 : rotS L N i d o f g (k + 1) = { kept := fun j => !decide (rpos L.n i j < k + 1), dialer := d, offer := o, outc := fun _ => 0, news := N, failures := f, failing := g } := by
        unfold rotS
        rw [if_neg]
        rintro ⟨h1, h2⟩
        have h3 : rpos L.n i d.toNat = k := by
          have : ¬ rpos L.n i d.toNat < k := fun c => c1 ⟨h1, c⟩
          omega
        have h4 := rpos_inj hi (show d.toNat < L.n by omega) he (by rw [h3, hp])
        omega
      rw [e1, e2]
      unfold forgetS
      rw [if_neg (by show ¬ d = _; exact c2)]
      exact ⟨fun j hj => keptEq _ (fun _ => rfl) j hj, rfl, rfl, fun j hj => rfl, fun j hj => rfl, rfl, rfl⟩

/-- The first j entries no longer kept. -/
def kj (q : Nat → Bool) (j : Nat) : Nat → Bool := fun l => !decide (l < j) && q l
theorem kj_zero (q : Nat → Bool) : kj q 0 = q := by funext l; simp [kj]
theorem kj_step (q : Nat → Bool) (j : Nat) : upd (kj q j) j false = kj q (j + 1) := by
  funext l; unfold upd kj; split
  · rename_i e; subst e; simp
  · rename_i e; congr 2; congr 1; apply propext; omega
/-- News for the first j entries that come behind the dialer. -/
def nj (L : Lay) (i dn : Nat) (q : Nat → Bool) (j : Nat) : Nat → Bool := fun l => q l || (decide (l < j) && (decide (rpos L.n i dn < rpos L.n i l) && L.follow l))
theorem nj_zero (L : Lay) (i dn : Nat) (q : Nat → Bool) : nj L i dn q 0 = q := by funext l; simp [nj]
theorem nj_skip {L : Lay} {i dn : Nat} {q : Nat → Bool} {j : Nat} (h : (decide (rpos L.n i dn < rpos L.n i j) && L.follow j) = false) : nj L i dn q (j + 1) = nj L i dn q j := by
  funext l; unfold nj
  by_cases e : l = j
  · subst e; rw [h]; simp
  · congr 2; congr 1; apply propext; omega
theorem nj_step {L : Lay} {i dn : Nat} {q : Nat → Bool} {j : Nat} (h1 : rpos L.n i dn < rpos L.n i j) (h2 : L.follow j = true) : upd (nj L i dn q j) j true = nj L i dn q (j + 1) := by
  funext l; unfold upd nj; split
  · rename_i e; subst e; simp [h1, h2]
  · rename_i e; congr 2; congr 1; apply propext; omega

theorem rot_end_no {L : Lay} {N : Nat → Bool} {i : Nat} {d o f : Int} {g : Bool} (hi : i < L.n) (hd : ¬ 0 ≤ d) : Same L.n (rotS L N i d o f g L.n) { freshS N d o f g L.n with kept := kj (freshS N d o f g L.n).kept L.n } := by
  unfold rotS
  rw [if_neg (fun c => hd c.1)]
  exact ⟨fun j hj => by simp [kj, hj, rpos_lt hi hj], rfl, rfl, fun j hj => rfl, fun j hj => by simp [freshS, hj], rfl, rfl⟩
theorem rot_end_yes {L : Lay} {N : Nat → Bool} {i dn : Nat} {o f : Int} {g : Bool} {O : Nat → Int} (hi : i < L.n) (hd : dn < L.n) (hO : O = if 0 ≤ o ∧ o ≠ (dn : Int) then upd (fun _ => 0) o.toNat 1 else fun _ => 0) :
    Same L.n (rotS L N i dn o f g L.n) { freshS N dn o f g L.n with kept := kj (freshS N dn o f g L.n).kept L.n, outc := O, dialer := -1, offer := -1, news := nj L i dn (freshS N dn o f g L.n).news L.n } := by
  unfold rotS
  rw [if_pos ⟨by omega, by rw [Int.toNat_natCast]; exact rpos_lt hi hd⟩]
  exact ⟨fun j hj => by simp [kj, hj, rpos_lt hi hj], rfl, rfl, fun j hj => by show _ = O j; rw [hO], fun j hj => by simp [freshS, nj, hj], rfl, rfl⟩

theorem rpos_int {n i j : Nat} (hi : i < n) : ((j : Int) - (i : Int) + (n : Int)) % (n : Int) = ((rpos n i j : Nat) : Int) := by
  unfold rpos
  rw [Int.natCast_emod]
  congr 1
  omega
theorem rpos_tint {n i j : Nat} (hi : i < n) : ((j : Int) - (i : Int) + (n : Int)).tmod (n : Int) = ((rpos n i j : Nat) : Int) := by
  rw [Int.tmod_eq_emod_of_nonneg (by omega)]; exact rpos_int hi
end Go.Proofs.Qxb6616570a
