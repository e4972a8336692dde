/- The state expected ('want'): where it lies. -/
import Derived.Test.Qxb6616570aState
set_option linter.unusedSimpArgs false
set_option linter.unusedVariables false
namespace Go.Proofs.Qxb6616570a

structure XLay where
  n : Nat
  kb : Nat
  ob : Nat
  nb : Nat

def XLay.xC (X : XLay) (S : St) : Array Value := #[.slice (some ⟨X.kb, 0, none⟩) X.n X.n, .int .i64 S.dialer, .int .i64 S.offer, .slice (some ⟨X.ob, 0, none⟩) X.n X.n, .slice (some ⟨X.nb, 0, none⟩) X.n X.n, .int .i64 S.failures, .bool S.failing]

/-- A row of n values. -/
def RowAt (w : World) (b : Nat) (t : TypeId) (n : Nat) (f : Nat → Value) : Prop := ∃ c, w.heap[b]? = some (.cells c t) ∧ ∀ j, j < n → c[j]? = some (f j)

theorem RowAt.cell {w : World} {b : Nat} {t : TypeId} {n : Nat} {f : Nat → Value} (h : RowAt w b t n f) {j : Nat} (hj : j < n) : w.cell? ⟨b, j, none⟩ = some (f j) := by
  obtain ⟨c, hc, h⟩ := h; exact cell_of hc (h j hj)
theorem RowAt.froz {w : World} {b : Nat} {t : TypeId} {n : Nat} {f : Nat → Value} (h : RowAt w b t n f) (j : Nat) : w.frozen? ⟨b, j, none⟩ = false := by
  obtain ⟨c, hc, h⟩ := h; exact frozen_of hc j
theorem RowAt.mod {w w' : World} {b : Nat} {t : TypeId} {n : Nat} {f : Nat → Value} (h : RowAt w b t n f) {M : Nat → Prop} (hm : Mod M w w') (hb : ¬ M b) : RowAt w' b t n f := by
  obtain ⟨c, hc, h⟩ := h; exact ⟨c, hm.stays hc hb, h⟩
theorem RowAt.set {w : World} {b : Nat} {t : TypeId} {n : Nat} {f : Nat → Value} (h : RowAt w b t n f) {i : Nat} (hi : i < n) (v : Value) : RowAt (w.setCell ⟨b, i, none⟩ v) b t n (upd f i v) := by
  obtain ⟨c, hc, h⟩ := h
  refine ⟨_, heap_set_same hc v, fun j hj => ?_⟩
  by_cases e : j = i
  · subst e
    rw [upd_same, Array.getElem?_setIfInBounds_self_of_lt (Array.getElem?_eq_some_iff.1 (h j hj)).1]
  · rw [upd_other _ _ e, Array.getElem?_setIfInBounds_ne (Ne.symm e)]; exact h j hj
theorem RowAt.other {w : World} {b p k : Nat} {t : TypeId} {n : Nat} {f : Nat → Value} (h : RowAt w b t n f) (hne : b ≠ p) (v : Value) : RowAt (w.setCell ⟨p, k, none⟩ v) b t n f := by
  obtain ⟨c, hc, h⟩ := h; exact ⟨c, (heap_set_other b hne v).trans hc, h⟩
theorem RowAt.congr {w : World} {b : Nat} {t : TypeId} {n : Nat} {f g : Nat → Value} (h : RowAt w b t n f) (e : ∀ j, j < n → g j = f j) : RowAt w b t n g := by
  obtain ⟨c, hc, h⟩ := h; exact ⟨c, hc, fun j hj => by rw [e j hj]; exact h j hj⟩
theorem RowAt.ne {w : World} {a b : Nat} {t u : TypeId} {n m : Nat} {f g : Nat → Value} (h : RowAt w a t n f) (k : RowAt w b u m g) (htu : t ≠ u) : a ≠ b := by
  obtain ⟨c, hc, _⟩ := h; obtain ⟨d, hd, _⟩ := k
  exact ne_of_tag hc hd (by simpa [tag] using htu)

/-- The three rows. -/
structure XArr (X : XLay) (S : St) (w : World) : Prop where
  hk : RowAt w X.kb 4 X.n (fun j => .bool (S.kept j))
  ho : RowAt w X.ob 5 X.n (fun j => .int .u8 (S.outc j))
  hn : RowAt w X.nb 4 X.n (fun j => .bool (S.news j))
  ne : X.kb ≠ X.nb

/-- The rows and the struct, in block b. -/
structure XRep (X : XLay) (b : Nat) (S : St) (w : World) : Prop where
  arr : XArr X S w
  hx : w.heap[b]? = some (.cells (X.xC S) 35)

def XLay.own (X : XLay) (b : Nat) (k : Nat) : Prop := k = b ∨ k = X.kb ∨ k = X.ob ∨ k = X.nb

section
variable {X : XLay} {b : Nat} {S : St} {w : World}
theorem XArr.mod (h : XArr X S w) {M : Nat → Prop} {w' : World} (hm : Mod M w w') (h1 : ¬ M X.kb) (h2 : ¬ M X.ob) (h3 : ¬ M X.nb) : XArr X S w' :=
  ⟨h.hk.mod hm h1, h.ho.mod hm h2, h.hn.mod hm h3, h.ne⟩
theorem XArr.still (h : XArr X S w) {w' : World} (hm : Mod (fun _ => False) w w') : XArr X S w' := h.mod hm id id id
theorem XRep.mod (h : XRep X b S w) {M : Nat → Prop} {w' : World} (hm : Mod M w w') (h0 : ¬ M b) (h1 : ¬ M X.kb) (h2 : ¬ M X.ob) (h3 : ¬ M X.nb) : XRep X b S w' :=
  ⟨h.arr.mod hm h1 h2 h3, hm.stays h.hx h0⟩
theorem XRep.still (h : XRep X b S w) {w' : World} (hm : Mod (fun _ => False) w w') : XRep X b S w' := h.mod hm id id id id

/-- The history's own code leaves it alone. -/
theorem XRep.far {L : Lay} {R : Raw} (h : XRep X b S w) (hr : Rep L R w) {w' : World} (hm : Mod L.own w w') : XRep X b S w' := by
  obtain ⟨c1, g1, _⟩ := h.arr.hk
  obtain ⟨c2, g2, _⟩ := h.arr.ho
  obtain ⟨c3, g3, _⟩ := h.arr.hn
  refine h.mod hm (fun k => ?_) (fun k => ?_) (fun k => ?_) (fun k => ?_)
  · have := hr.own_tag k h.hx; simp [tag] at this
  · have := hr.own_tag k g1; simp [tag] at this
  · have := hr.own_tag k g2; simp [tag] at this
  · have := hr.own_tag k g3; simp [tag] at this

/-- .. and its own code leaves the history alone. -/
theorem Hold.far {L : Lay} {T : St} (h : Hold L T w) (hx : XRep X b S w) {w' : World} (hm : Mod (X.own b) w w') : Hold L T w' := by
  obtain ⟨R, hr, hg⟩ := h
  obtain ⟨c1, g1, _⟩ := hx.arr.hk
  obtain ⟨c2, g2, _⟩ := hx.arr.ho
  obtain ⟨c3, g3, _⟩ := hx.arr.hn
  refine ⟨R, hr.mod hm (fun k o hk ho => ?_), hg⟩
  rcases hk with rfl | rfl | rfl | rfl
  · rw [hx.hx] at ho; cases ho; simp [tag]
  · rw [g1] at ho; cases ho; simp [tag]
  · rw [g2] at ho; cases ho; simp [tag]
  · rw [g3] at ho; cases ho; simp [tag]

theorem XRep.c0 (h : XRep X b S w) : w.cell? ⟨b, 0, none⟩ = some (.slice (some ⟨X.kb, 0, none⟩) X.n X.n) := cell_of h.hx rfl
theorem XRep.c1 (h : XRep X b S w) : w.cell? ⟨b, 1, none⟩ = some (.int .i64 S.dialer) := cell_of h.hx rfl
theorem XRep.c2 (h : XRep X b S w) : w.cell? ⟨b, 2, none⟩ = some (.int .i64 S.offer) := cell_of h.hx rfl
theorem XRep.c3 (h : XRep X b S w) : w.cell? ⟨b, 3, none⟩ = some (.slice (some ⟨X.ob, 0, none⟩) X.n X.n) := cell_of h.hx rfl
theorem XRep.c4 (h : XRep X b S w) : w.cell? ⟨b, 4, none⟩ = some (.slice (some ⟨X.nb, 0, none⟩) X.n X.n) := cell_of h.hx rfl
theorem XRep.c5 (h : XRep X b S w) : w.cell? ⟨b, 5, none⟩ = some (.int .i64 S.failures) := cell_of h.hx rfl
theorem XRep.c6 (h : XRep X b S w) : w.cell? ⟨b, 6, none⟩ = some (.bool S.failing) := cell_of h.hx rfl
theorem XRep.fx (h : XRep X b S w) (k : Nat) : w.frozen? ⟨b, k, none⟩ = false := frozen_of h.hx k

theorem XRep.nk (h : XRep X b S w) : X.kb ≠ b := by obtain ⟨c, hc, _⟩ := h.arr.hk; exact ne_of_tag hc h.hx (by simp [tag])
theorem XRep.no (h : XRep X b S w) : X.ob ≠ b := by obtain ⟨c, hc, _⟩ := h.arr.ho; exact ne_of_tag hc h.hx (by simp [tag])
theorem XRep.nn (h : XRep X b S w) : X.nb ≠ b := by obtain ⟨c, hc, _⟩ := h.arr.hn; exact ne_of_tag hc h.hx (by simp [tag])

theorem XRep.setKept (h : XRep X b S w) {i : Nat} (hi : i < X.n) (v : Bool) : XRep X b { S with kept := upd S.kept i v } (w.setCell ⟨X.kb, i, none⟩ (.bool v)) :=
  ⟨⟨(h.arr.hk.set hi (.bool v)).congr (fun j _ => by simp only [upd]; split <;> rfl), h.arr.ho.other (h.arr.ho.ne h.arr.hk (by decide)) _, h.arr.hn.other (Ne.symm h.arr.ne) _, h.arr.ne⟩, (heap_set_other _ (Ne.symm h.nk) _).trans h.hx⟩
theorem XRep.setNews (h : XRep X b S w) {i : Nat} (hi : i < X.n) (v : Bool) : XRep X b { S with news := upd S.news i v } (w.setCell ⟨X.nb, i, none⟩ (.bool v)) :=
  ⟨⟨h.arr.hk.other h.arr.ne _, h.arr.ho.other (h.arr.ho.ne h.arr.hn (by decide)) _, (h.arr.hn.set hi (.bool v)).congr (fun j _ => by simp only [upd]; split <;> rfl), h.arr.ne⟩, (heap_set_other _ (Ne.symm h.nn) _).trans h.hx⟩
theorem XRep.setOutc (h : XRep X b S w) {i : Nat} (hi : i < X.n) (v : Int) : XRep X b { S with outc := upd S.outc i v } (w.setCell ⟨X.ob, i, none⟩ (.int .u8 v)) :=
  ⟨⟨h.arr.hk.other (h.arr.hk.ne h.arr.ho (by decide)) _, (h.arr.ho.set hi (.int .u8 v)).congr (fun j _ => by simp only [upd]; split <;> rfl), h.arr.hn.other (h.arr.hn.ne h.arr.ho (by decide)) _, h.arr.ne⟩, (heap_set_other _ (Ne.symm h.no) _).trans h.hx⟩
theorem XRep.setX (h : XRep X b S w) {T : St} (k : Nat) (v : Value) (hc : (X.xC S).setIfInBounds k v = X.xC T) (h1 : T.kept = S.kept) (h2 : T.outc = S.outc) (h3 : T.news = S.news) : XRep X b T (w.setCell ⟨b, k, none⟩ v) :=
  ⟨⟨h1 ▸ h.arr.hk.other h.nk _, h2 ▸ h.arr.ho.other h.no _, h3 ▸ h.arr.hn.other h.nn _, h.arr.ne⟩, hc ▸ heap_set_same h.hx v⟩
theorem XRep.setDialer (h : XRep X b S w) (d : Int) : XRep X b { S with dialer := d } (w.setCell ⟨b, 1, none⟩ (.int .i64 d)) := h.setX 1 _ rfl rfl rfl rfl
theorem XRep.setOffer (h : XRep X b S w) (d : Int) : XRep X b { S with offer := d } (w.setCell ⟨b, 2, none⟩ (.int .i64 d)) := h.setX 2 _ rfl rfl rfl rfl
theorem XRep.setFailures (h : XRep X b S w) (d : Int) : XRep X b { S with failures := d } (w.setCell ⟨b, 5, none⟩ (.int .i64 d)) := h.setX 5 _ rfl rfl rfl rfl
theorem XRep.setFailing (h : XRep X b S w) (d : Bool) : XRep X b { S with failing := d } (w.setCell ⟨b, 6, none⟩ (.bool d)) := h.setX 6 _ rfl rfl rfl rfl
end
end Go.Proofs.Qxb6616570a
