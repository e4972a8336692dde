/- What the laws carry from call to call. -/
import Derived.Test.Qxb6616570aBuild
import Derived.Test.Qxb6616570aFresh
import Derived.Test.Qxb6616570aHolds
import Derived.Test.Qxb6616570aShape
import Derived.Test.Qxb6616570aForgetT
set_option linter.unusedSimpArgs false
set_option linter.unusedVariables false
namespace Go.Proofs.Qxb6616570a
open Go.RowKit

structure LC (w0 : World) (L : Lay) (S T : St) (X : XLay) (wb xb sb so : Nat) (N : Nat → Bool) (w : World) : Prop where
  hold : Hold L S w
  x : XRep X xb T w
  hw : w.heap[wb]? = some (.cells #[.pointer (some ⟨L.h, 0, none⟩), .pointer (some ⟨L.r, 0, none⟩), .slice (some ⟨L.pb, 0, none⟩) L.n L.n, .slice (some ⟨L.eb, 0, none⟩) L.n L.n] 30)
  xn : X.n = L.n
  sp : Specs w sb so L.n L.follow N
  up : Mod (fun k => w0.heap.size ≤ k) w0 w
  bl : L.base = w0.heap.size
  bx : w0.heap.size ≤ xb
  bk : w0.heap.size ≤ X.kb
  bo : w0.heap.size ≤ X.ob
  bn : w0.heap.size ≤ X.nb
  sl : sb < w0.heap.size

section
variable {w0 : World} {L : Lay} {S T : St} {X : XLay} {wb xb sb so : Nat} {N : Nat → Bool} {w w' : World}

theorem LC.nsb (h : LC w0 L S T X wb xb sb so N w) : ¬ L.own sb := fun k => by
  obtain ⟨R, hr, _⟩ := h.hold
  have := hr.own_base sb k; rw [h.bl] at this; have := h.sl; omega
theorem LC.nwb (h : LC w0 L S T X wb xb sb so N w) : ¬ L.own wb := fun k => by
  obtain ⟨R, hr, _⟩ := h.hold
  have := hr.own_tag k h.hw; simp [tag] at this
theorem LC.xsb (h : LC w0 L S T X wb xb sb so N w) : sb ≠ xb ∧ sb ≠ X.kb ∧ sb ≠ X.ob ∧ sb ≠ X.nb := by
  have := h.sl; have := h.bx; have := h.bk; have := h.bo; have := h.bn
  refine ⟨?_, ?_, ?_, ?_⟩ <;> omega
theorem LC.nxs (h : LC w0 L S T X wb xb sb so N w) : ¬ X.own xb sb := fun k => by
  obtain ⟨a, b, c, d⟩ := h.xsb
  rcases k with k | k | k | k
  · exact a k
  · exact b k
  · exact c k
  · exact d k
theorem LC.nxw (h : LC w0 L S T X wb xb sb so N w) : ¬ X.own xb wb := fun k => by
  obtain ⟨c1, g1, _⟩ := h.x.arr.hk
  obtain ⟨c2, g2, _⟩ := h.x.arr.ho
  obtain ⟨c3, g3, _⟩ := h.x.arr.hn
  rcases k with k | k | k | k
  · exact ne_of_tag h.hw h.x.hx (by simp [tag]) k
  · exact ne_of_tag h.hw g1 (by simp [tag]) k
  · exact ne_of_tag h.hw g2 (by simp [tag]) k
  · exact ne_of_tag h.hw g3 (by simp [tag]) k

/-- The history's own code has run. -/
theorem LC.hist (h : LC w0 L S T X wb xb sb so N w) {S' : St} (hm : Mod L.own w w') (hh : Hold L S' w') : LC w0 L S' T X wb xb sb so N w' := by
  obtain ⟨R, hr, _⟩ := h.hold
  exact ⟨hh, h.x.far hr hm, hm.stays h.hw h.nwb, h.xn, h.sp.mod hm h.nsb, h.up.trans (hm.mono (fun k _ hk => by have := hr.own_base k hk; rw [h.bl] at this; exact this)), h.bl, h.bx, h.bk, h.bo, h.bn, h.sl⟩
/-- The expected state has been turned. -/
theorem LC.want (h : LC w0 L S T X wb xb sb so N w) {T' : St} (hm : Mod (X.own xb) w w') (hx : XRep X xb T' w') : LC w0 L S T' X wb xb sb so N w' :=
  ⟨h.hold.far h.x hm, hx, hm.stays h.hw h.nxw, h.xn, h.sp.mod hm h.nxs, h.up.trans (hm.mono (fun k _ hk => by
    have := h.bx; have := h.bk; have := h.bo; have := h.bn
    rcases hk with hk | hk | hk | hk <;> omega)), h.bl, h.bx, h.bk, h.bo, h.bn, h.sl⟩
/-- New memory alone. -/
theorem LC.still (h : LC w0 L S T X wb xb sb so N w) (hm : Mod (fun _ => False) w w') : LC w0 L S T X wb xb sb so N w' := by
  obtain ⟨R, hr, hg⟩ := h.hold
  exact ⟨⟨R, hr.still hm, hg⟩, h.x.still hm, hm.stays h.hw id, h.xn, h.sp.mod hm id, h.up.trans (hm.mono (fun k _ hk => hk.elim)), h.bl, h.bx, h.bk, h.bo, h.bn, h.sl⟩
theorem LC.below (h : LC w0 L S T X wb xb sb so N w) : Below w0.heap.size w0 w := h.up.below (Nat.le_refl _) (fun k hk => hk)
theorem LC.setKept (h : LC w0 L S T X wb xb sb so N w) {i : Nat} (hi : i < L.n) (v : Bool) : LC w0 L S { T with kept := upd T.kept i v } X wb xb sb so N (w.setCell ⟨X.kb, i, none⟩ (.bool v)) :=
  h.want ((Mod.refl _ _).setCell (Or.inl (Or.inr (Or.inl rfl))) _) (h.x.setKept (by rw [h.xn]; exact hi) v)

theorem LC.cw0 (h : LC w0 L S T X wb xb sb so N w) : w.cell? ⟨wb, 0, none⟩ = some (.pointer (some ⟨L.h, 0, none⟩)) := cell_of h.hw rfl
theorem LC.cw1 (h : LC w0 L S T X wb xb sb so N w) : w.cell? ⟨wb, 1, none⟩ = some (.pointer (some ⟨L.r, 0, none⟩)) := cell_of h.hw rfl
theorem LC.cw2 (h : LC w0 L S T X wb xb sb so N w) : w.cell? ⟨wb, 2, none⟩ = some (.slice (some ⟨L.pb, 0, none⟩) L.n L.n) := cell_of h.hw rfl
theorem LC.cw3 (h : LC w0 L S T X wb xb sb so N w) : w.cell? ⟨wb, 3, none⟩ = some (.slice (some ⟨L.eb, 0, none⟩) L.n L.n) := cell_of h.hw rfl
theorem LC.ceb (h : LC w0 L S T X wb xb sb so N w) {i : Nat} (hi : i < L.n) : w.cell? ⟨L.eb, i, none⟩ = some (.pointer (some ⟨L.E i, 0, none⟩)) := by
  obtain ⟨R, hr, _⟩ := h.hold; exact hr.ceb hi
end

/-- 'holds', called by a law. -/
theorem LC.holds {w0 : World} {L : Lay} {S : St} {X : XLay} {wb xb sb so : Nat} {N : Nat → Bool} {w : World} (h : LC w0 L S S X wb xb sb so N w) (hm : L.n ≤ 65536) :
    Calls Try.prog 15 #[.agg #[.pointer (some ⟨L.h, 0, none⟩), .pointer (some ⟨L.r, 0, none⟩), .slice (some ⟨L.pb, 0, none⟩) L.n L.n, .slice (some ⟨L.eb, 0, none⟩) L.n L.n], .string L.peer, .agg #[.slice (some ⟨X.kb, 0, none⟩) L.n L.n, .int .i64 S.dialer, .int .i64 S.offer, .slice (some ⟨X.ob, 0, none⟩) L.n L.n, .slice (some ⟨X.nb, 0, none⟩) L.n L.n, .int .i64 S.failures, .bool S.failing]] w
      fun e w' => e = .returned (.bool true) ∧ LC w0 L S S X wb xb sb so N w' := by
  have k := holds_any h.hold h.x.arr h.xn hm
  unfold XLay.xC at k
  rw [h.xn] at k
  refine k.mono ?_
  rintro e w' ⟨rfl, m⟩
  exact ⟨rfl, h.still m⟩

/-- The start: build and fresh have run, their results lie in blocks of their own. -/
theorem LC.start {w0 w1 w2 : World} {L : Lay} {S : St} {X : XLay} {sb so : Nat} {N : Nat → Bool} (hs : Specs w0 sb so L.n L.follow N) (hb : L.base = w0.heap.size) (hh : Hold L S w1) (m1 : Mod (fun _ => False) w0 w1)
    (hx : XArr X S w2) (hn : X.n = L.n) (b1 : w1.heap.size + 1 ≤ X.kb) (b2 : w1.heap.size + 1 ≤ X.ob) (b3 : w1.heap.size + 1 ≤ X.nb)
    (m2 : Mod (fun _ => False) (w1.alloc (.cells #[.pointer (some ⟨L.h, 0, none⟩), .pointer (some ⟨L.r, 0, none⟩), .slice (some ⟨L.pb, 0, none⟩) L.n L.n, .slice (some ⟨L.eb, 0, none⟩) L.n L.n] 30)) w2) :
    LC w0 L S S X w1.heap.size w2.heap.size sb so N (w2.alloc (.cells #[.slice (some ⟨X.kb, 0, none⟩) L.n L.n, .int .i64 S.dialer, .int .i64 S.offer, .slice (some ⟨X.ob, 0, none⟩) L.n L.n, .slice (some ⟨X.nb, 0, none⟩) L.n L.n, .int .i64 S.failures, .bool S.failing] 35)) := by
  obtain ⟨R, hr, hg⟩ := hh
  have m3 := ((Mod.refl (fun _ => False) w1).alloc (.cells #[.pointer (some ⟨L.h, 0, none⟩), .pointer (some ⟨L.r, 0, none⟩), .slice (some ⟨L.pb, 0, none⟩) L.n L.n, .slice (some ⟨L.eb, 0, none⟩) L.n L.n] 30)).trans m2
  have m4 := m3.alloc (.cells #[.slice (some ⟨X.kb, 0, none⟩) L.n L.n, .int .i64 S.dialer, .int .i64 S.offer, .slice (some ⟨X.ob, 0, none⟩) L.n L.n, .slice (some ⟨X.nb, 0, none⟩) L.n L.n, .int .i64 S.failures, .bool S.failing] 35)
  have s1 := m1.size
  have s2 := m2.size
  rw [World.size_alloc] at s2
  refine ⟨⟨R, hr.still m4, hg⟩, ⟨hx.still ((Mod.refl _ _).alloc _), ?_⟩, ?_, hn, hs.mod (m1.trans m4) id, (m1.trans m4).mono (fun _ _ h => h.elim), hb, by omega, by omega, by omega, by omega, hs.lt⟩
  · unfold XLay.xC; rw [hn]; exact heap_alloc_new w2 _
  · exact ((m2.alloc _).stays (heap_alloc_new w1 _) id)
end Go.Proofs.Qxb6616570a
