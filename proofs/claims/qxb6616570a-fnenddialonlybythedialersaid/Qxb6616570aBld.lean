/- What the first loop of 'build' lays, entry by entry from the last. Plain. -/
import Derived.Test.Qxb6616570aState
set_option linter.unusedSimpArgs false
set_option linter.unusedVariables false
namespace Go.Proofs.Qxb6616570a
open Go.RowKit

def pO (h : Nat) (b : Bool) : Obj := .cells #[.pointer (some ⟨h, 0, none⟩), .bool b, .slice none 0 0, .chan none, .int .u32 0] 106
def eO (p r : Nat) (s : ByteArray) (x : Option Addr) : Obj := .cells #[.pointer (some ⟨p, 0, none⟩), .string s, .pointer (some ⟨r, 0, none⟩), .pointer x, .bool false, .int .u8 0] 109

/-- The address of entry p, if there is one. -/
def nxA (E : Nat → Nat) (n p : Nat) : Option Addr := if p < n then some ⟨E p, 0, none⟩ else none
theorem nxA_upd {E : Nat → Nat} {n p q x : Nat} (h : p ≠ q) : nxA (upd E q x) n p = nxA E n p := by simp [nxA, upd, h]

structure Bld (n h r pb eb base : Nat) (peer : ByteArray) (F : Nat → Bool) (P E : Nat → Nat) (p : Nat) (w : World) : Prop where
  he : ∀ i, p ≤ i → i < n → w.heap[E i]? = some (eO (P i) r peer (nxA E n (i + 1)))
  hp : ∀ i, p ≤ i → i < n → w.heap[P i]? = some (pO h (F i))
  hpb : ∃ c, w.heap[pb]? = some (.cells c 60) ∧ c.size = n ∧ ∀ i, p ≤ i → i < n → c[i]? = some (ptr (P i))
  heb : ∃ c, w.heap[eb]? = some (.cells c 37) ∧ c.size = n ∧ ∀ i, p ≤ i → i < n → c[i]? = some (ptr (E i))
  injE : ∀ i j, p ≤ i → i < n → p ≤ j → j < n → E i = E j → i = j
  injP : ∀ i j, p ≤ i → i < n → p ≤ j → j < n → P i = P j → i = j
  bE : ∀ i, p ≤ i → i < n → base ≤ E i
  bP : ∀ i, p ≤ i → i < n → base ≤ P i
  bs : base ≤ w.heap.size

theorem set_row {c : Array Value} {n p : Nat} {f : Nat → Nat} {x : Nat} (hs : c.size = n) (hp : p < n) (h : ∀ i, p + 1 ≤ i → i < n → c[i]? = some (ptr (f i))) :
    (c.setIfInBounds p (ptr x)).size = n ∧ ∀ i, p ≤ i → i < n → (c.setIfInBounds p (ptr x))[i]? = some (ptr (upd f p x i)) := by
  refine ⟨by simpa using hs, fun i h1 h2 => ?_⟩
  by_cases e : i = p
  · subst e; rw [upd_same, Array.getElem?_setIfInBounds_self_of_lt (by omega)]
  · rw [upd_other _ _ e, Array.getElem?_setIfInBounds_ne (Ne.symm e)]; exact h i (by omega) h2

theorem Bld.step {n h r pb eb base : Nat} {peer : ByteArray} {F : Nat → Bool} {P E : Nat → Nat} {p : Nat} {w : World} (B : Bld n h r pb eb base peer F P E (p + 1) w) (hp : p < n) :
    Bld n h r pb eb base peer F (upd P p w.heap.size) (upd E p (w.heap.size + 1)) p
      ((((w.alloc (pO h (F p))).alloc (eO w.heap.size r peer (nxA E n (p + 1)))).setCell ⟨pb, p, none⟩ (ptr w.heap.size)).setCell ⟨eb, p, none⟩ (ptr (w.heap.size + 1))) := by
  obtain ⟨c1, b1, s1, f1⟩ := B.hpb
  obtain ⟨c2, b2, s2, f2⟩ := B.heb
  have l1 := heap_lt b1
  have l2 := heap_lt b2
  have npe : pb ≠ eb := ne_of_tag b1 b2 (by simp [tag])
  -- the heap behind the two allocs
  have hn0 : ((w.alloc (pO h (F p))).alloc (eO w.heap.size r peer (nxA E n (p + 1)))).heap[w.heap.size]? = some (pO h (F p)) := by
    rw [Below.heap_alloc _ _ _ (by simp)]; exact heap_alloc_new w _
  have hn1 : ((w.alloc (pO h (F p))).alloc (eO w.heap.size r peer (nxA E n (p + 1)))).heap[w.heap.size + 1]? = some (eO w.heap.size r peer (nxA E n (p + 1))) := by
    have := heap_alloc_new (w.alloc (pO h (F p))) (eO w.heap.size r peer (nxA E n (p + 1)))
    rwa [World.size_alloc] at this
  have hold : ∀ {k : Nat} {o : Obj}, w.heap[k]? = some o → ((w.alloc (pO h (F p))).alloc (eO w.heap.size r peer (nxA E n (p + 1)))).heap[k]? = some o := fun {k o} hk => by
    have := heap_lt hk
    rw [Below.heap_alloc _ _ _ (by simp; omega), Below.heap_alloc _ _ _ this]; exact hk
  generalize (w.alloc (pO h (F p))).alloc (eO w.heap.size r peer (nxA E n (p + 1))) = w2 at hn0 hn1 hold ⊢
  have st : ∀ {k : Nat} {o : Obj}, w2.heap[k]? = some o → k ≠ pb → k ≠ eb → ((w2.setCell ⟨pb, p, none⟩ (ptr w.heap.size)).setCell ⟨eb, p, none⟩ (ptr (w.heap.size + 1))).heap[k]? = some o := fun {k o} hk h1 h2 => by
    rw [heap_set_other _ h2, heap_set_other _ h1]; exact hk
  have q1 := heap_set_same (k := p) (hold b1) (ptr w.heap.size)
  have q2 := heap_set_same (w := w2.setCell ⟨pb, p, none⟩ (ptr w.heap.size)) (k := p) ((heap_set_other _ (Ne.symm npe) _).trans (hold b2)) (ptr (w.heap.size + 1))
  have r1 := set_row (x := w.heap.size) s1 hp f1
  have r2 := set_row (x := w.heap.size + 1) s2 hp f2
  refine ⟨fun i h1 h2 => ?_, fun i h1 h2 => ?_, ⟨_, (heap_set_other _ npe _).trans q1, r1⟩, ⟨_, q2, r2⟩, fun i j h1 h2 h3 h4 e => ?_, fun i j h1 h2 h3 h4 e => ?_, fun i h1 h2 => ?_, fun i h1 h2 => ?_, ?_⟩
  · by_cases e : i = p
    · subst e
      rw [upd_same, upd_same, nxA_upd (by omega)]
      exact st hn1 (by omega) (by omega)
    · rw [upd_other _ _ e, upd_other _ _ e, nxA_upd (by omega)]
      have b := B.he i (by omega) h2
      exact st (hold b) (ne_of_tag b b1 (by simp [tag, eO])) (ne_of_tag b b2 (by simp [tag, eO]))
  · by_cases e : i = p
    · subst e
      rw [upd_same]
      exact st hn0 (by omega) (by omega)
    · rw [upd_other _ _ e]
      have b := B.hp i (by omega) h2
      exact st (hold b) (ne_of_tag b b1 (by simp [tag, pO])) (ne_of_tag b b2 (by simp [tag, pO]))
  · by_cases e1 : i = p
    · by_cases e2 : j = p
      · omega
      · rw [e1, upd_same, upd_other _ _ e2] at e
        have := heap_lt (B.he j (by omega) h4); omega
    · by_cases e2 : j = p
      · rw [e2, upd_same, upd_other _ _ e1] at e
        have := heap_lt (B.he i (by omega) h2); omega
      · rw [upd_other _ _ e1, upd_other _ _ e2] at e
        exact B.injE i j (by omega) h2 (by omega) h4 e
  · by_cases e1 : i = p
    · by_cases e2 : j = p
      · omega
      · rw [e1, upd_same, upd_other _ _ e2] at e
        have := heap_lt (B.hp j (by omega) h4); omega
    · by_cases e2 : j = p
      · rw [e2, upd_same, upd_other _ _ e1] at e
        have := heap_lt (B.hp i (by omega) h2); omega
      · rw [upd_other _ _ e1, upd_other _ _ e2] at e
        exact B.injP i j (by omega) h2 (by omega) h4 e
  · have := B.bs
    by_cases e : i = p
    · rw [e, upd_same]; omega
    · rw [upd_other _ _ e]; exact B.bE i (by omega) h2
  · have := B.bs
    by_cases e : i = p
    · rw [e, upd_same]; omega
    · rw [upd_other _ _ e]; exact B.bP i (by omega) h2
  · have := heap_lt hn1
    have := B.bs
    simp only [World.size_setCell]; omega

/-- .. with the stores ahead of the new blocks, as the walk writes it. -/
theorem Bld.step' {n h r pb eb base : Nat} {peer : ByteArray} {F : Nat → Bool} {P E : Nat → Nat} {p : Nat} {w : World} (B : Bld n h r pb eb base peer F P E (p + 1) w) (hp : p < n) :
    Bld n h r pb eb base peer F (upd P p w.heap.size) (upd E p (w.heap.size + 1)) p
      ((((w.setCell ⟨pb, p, none⟩ (ptr w.heap.size)).setCell ⟨eb, p, none⟩ (ptr (w.heap.size + 1))).alloc (pO h (F p))).alloc (eO w.heap.size r peer (nxA E n (p + 1)))) := by
  obtain ⟨c1, b1, _⟩ := B.hpb
  obtain ⟨c2, b2, _⟩ := B.heb
  have l1 := heap_lt b1
  have l2 := heap_lt b2
  have e : ((((w.setCell ⟨pb, p, none⟩ (ptr w.heap.size)).setCell ⟨eb, p, none⟩ (ptr (w.heap.size + 1))).alloc (pO h (F p))).alloc (eO w.heap.size r peer (nxA E n (p + 1)))) =
      ((((w.alloc (pO h (F p))).alloc (eO w.heap.size r peer (nxA E n (p + 1)))).setCell ⟨pb, p, none⟩ (ptr w.heap.size)).setCell ⟨eb, p, none⟩ (ptr (w.heap.size + 1))) := by
    rw [World.setCell_alloc_past _ pb p _ (by simp; omega), World.setCell_alloc_past _ pb p _ l1, World.setCell_alloc_past _ eb p _ (by simp; omega), World.setCell_alloc_past _ eb p _ (by simp; omega)]
  rw [e]
  exact B.step hp

/-- The record as 'build' first lays it. -/
def rawB (f : Int) (g : Bool) (n : Nat) : Raw := { lk := 0, has := false, failures := f, failing := g, dialer := -1, offer := -1, head := -1, rf := fun _ => true, nx := fun i => if i + 1 < n then ((i + 1 : Nat) : Int) else -1, en := fun _ => false, pn := fun _ => false, ph := fun _ => false, outc := fun _ => 0 }

theorem Bld.rep {n h m r pb eb base : Nat} {peer : ByteArray} {F : Nat → Bool} {P E : Nat → Nat} {w : World} {f : Int} {g : Bool} (B : Bld n h r pb eb base peer F P E 0 w)
    (hh : w.heap[h]? = some (.cells #[.int .i32 0, .int .u32 0, .map (some m), .int .i64 0] 98)) (hm : w.heap[m]? = some (.map #[] 0))
    (hr : w.heap[r]? = some (.cells #[.int .i64 f, .int .u64 0, .int .i64 0, .pointer none, .bool g, .pointer none, .pointer none, .pointer none] 86)) (b1 : base ≤ h) (b2 : base ≤ m) (b3 : base ≤ r) :
    Rep ⟨n, h, m, r, pb, eb, P, E, peer, F, base⟩ (rawB f g n) w := by
  obtain ⟨c1, g1, _, f1⟩ := B.hpb
  obtain ⟨c2, g2, _, f2⟩ := B.heb
  refine ⟨hh, ⟨0, 0, hm⟩, hr, fun j hj => ?_, fun j hj => ⟨_, B.hp j (by omega) hj, Or.inl ⟨rfl, rfl⟩⟩, ⟨c1, g1, fun j hj => f1 j (by omega) hj⟩, ⟨c2, g2, fun j hj => f2 j (by omega) hj⟩,
    fun i j h1 h2 e => B.injE i j (by omega) h1 (by omega) h2 e, fun i j h1 h2 e => B.injP i j (by omega) h1 (by omega) h2 e, b1, b2, b3, fun j hj => B.bE j (by omega) hj, fun j hj => B.bP j (by omega) hj⟩
  show w.heap[E j]? = _
  rw [B.he j (by omega) hj]
  have e : Lay.ep ⟨n, h, m, r, pb, eb, P, E, peer, F, base⟩ ((rawB f g n).nx j) = .pointer (nxA E n (j + 1)) := by
    unfold Lay.ep rawB nxA
    by_cases c : j + 1 < n
    · simp only [c, if_true, show ¬ (((j + 1 : Nat) : Int) < 0) by omega, if_false, Int.toNat_natCast]
    · simp [c]
  unfold eO Lay.eC
  rw [e]
  rfl
end Go.Proofs.Qxb6616570a
