/- (*Entry).forget. -/
import Derived.Test.Qxb6616570aNews
import Derived.Test.Qxb6616570aState
import Derived.Deep.RegionHeld3
set_option linter.unusedSimpArgs false
set_option linter.unusedVariables false
namespace Go.Proofs.Qxb6616570a
open Go.RowKit
open Go.MuLone

attribute [local go_sem] eq37 ne37 ne37n eq60 Pl_drew Pl_alloc Pl_setCell

theorem heap_setMap_same {w : World} {m : Nat} {o : Obj} (h : m < w.heap.size) (o' : Obj) : (setMap w m o').heap[m]? = some o' := by
  simp [setMap, h]
theorem heap_setMap_other {w : World} {m : Nat} (p : Nat) (h : p ≠ m) (o' : Obj) : (setMap w m o').heap[p]? = w.heap[p]? := by
  simp [setMap, Ne.symm h]
theorem Mod.setMap {M : Nat → Prop} {a w : World} (h : Mod M a w) {m : Nat} (hp : M m) (o : Obj) : Mod M a (setMap w m o) := by
  refine ⟨h.os, h.tape, h.output, by simpa [Qxb6616570a.setMap] using h.size, fun k hk hm => ?_⟩
  rw [heap_setMap_other k (fun e => hm (by rw [e]; exact hp))]
  exact h.keep k hk hm

/-- The map's block turns. -/
theorem Rep.setM {L : Lay} {R : Raw} {w : World} (h : Rep L R w) (b : Bool) (born clk : Nat) : Rep L { R with has := b } (setMap w L.m (L.mO { R with has := b } born clk)) := by
  obtain ⟨born0, clk0, hmm⟩ := h.hm
  have ot : ∀ {x : Nat} {o : Obj}, w.heap[x]? = some o → tag o ≠ 0 → (setMap w L.m (L.mO { R with has := b } born clk)).heap[x]? = some o :=
    fun {x o} hb ht => (heap_setMap_other x (ne_of_tag hb hmm (by simpa [tag, Lay.mO] using ht)) _).trans hb
  obtain ⟨c1, g1, g1'⟩ := h.hpb
  obtain ⟨c2, g2, g2'⟩ := h.heb
  refine ⟨ot h.hh (by simp [tag]), ⟨born, clk, heap_setMap_same (o := L.mO R born0 clk0) (heap_lt hmm) _⟩, ot h.hr (by simp [tag]), fun j hj => ot (h.he j hj) (by simp [tag]), fun j hj => ?_,
    ⟨c1, ot g1 (by simp [tag]), g1'⟩, ⟨c2, ot g2 (by simp [tag]), g2'⟩, h.injE, h.injP, h.bh, h.bm, h.br, h.bE, h.bP⟩
  obtain ⟨nv, hp, hn⟩ := h.hp j hj
  refine ⟨nv, ot hp (by simp [tag]), ?_⟩
  rcases hn with hn | ⟨hb, g, cap, c, z, h3, h4, h5⟩
  · exact Or.inl hn
  · exact Or.inr ⟨hb, g, cap, c, z, h3, ot h4 (by simp [tag]), h5⟩

theorem setCell_idle {w : World} {b k : Nat} {v : Value} (h : w.cell? ⟨b, k, none⟩ = some v) (p : Nat) : (w.setCell ⟨b, k, none⟩ v).heap[p]? = w.heap[p]? := by
  by_cases e : p = b
  · subst e
    simp only [World.cell?] at h
    split at h
    · rename_i c t z hb
      rw [heap_set_same hb, hb]
      simp at h
      congr 2
      apply Array.ext_getElem?
      intro i
      by_cases e : i = k
      · subst e
        rw [Array.getElem?_setIfInBounds_self_of_lt (Array.getElem?_eq_some_iff.1 h).1, h]
      · simp [Array.getElem?_setIfInBounds, Ne.symm e]
    · cases h
  · exact heap_set_other p e v

/-- A store of what is there already. -/
theorem Rep.idle {L : Lay} {R : Raw} {w : World} (h : Rep L R w) {b k : Nat} {v : Value} (hc : w.cell? ⟨b, k, none⟩ = some v) : Rep L R (w.setCell ⟨b, k, none⟩ v) :=
  h.still ⟨rfl, rfl, rfl, by simp, fun p _ _ => setCell_idle hc p⟩

theorem Rep.drewN {L : Lay} {R : Raw} {w : World} (h : Rep L R w) (n : Nat) : Rep L R (w.drewN n) := h.still ⟨rfl, rfl, rfl, Nat.le_refl _, fun _ _ _ => rfl⟩
theorem Mod.drewN {M : Nat → Prop} {a w : World} (h : Mod M a w) (n : Nat) : Mod M a (w.drewN n) := ⟨h.os, h.tape, h.output, h.size, h.keep⟩
theorem Rep.eqR {L : Lay} {R R' : Raw} {w : World} (h : Rep L R w) (e : R = R') : Rep L R' w := e ▸ h

set_option maxHeartbeats 1000000 in
/-- A dial is in flight and the caller would not end it: nothing turns. -/
theorem forget_no {L : Lay} {S : St} {w : World} (h : Hold L S w) {i : Nat} (hi : i < L.n) (hk : S.kept i = true) (hd : 0 ≤ S.dialer) :
    Calls Try.prog 37 #[.pointer (some ⟨L.E i, 0, none⟩), .bool true] w fun e w' => e = .returned (.bool false) ∧ Hold L S w' ∧ Mod L.own w w' := by
  obtain ⟨R, hr, hg⟩ := h
  have r1 := hr.setLk 1
  have r2 := r1.setLk 0
  have e0 := hr.ce0 hi
  have g0 := hr.cp0 hi
  have l0 := hr.ch0
  rw [hg.lk] at l0
  have f0 := hr.fh 0
  have e2 := r1.ce2t hi (by rw [hg.rf i hi]; exact hk)
  have c5 := r1.cr5
  obtain ⟨d, hdd⟩ := Int.eq_ofNat_of_zero_le hd
  rw [hg.dl, hdd, ep_nat] at c5
  have HL0 : Hid (({ R with lk := 1 } : Raw).lk = 1) := rfl
  have l1 := r1.ch0
  have f1 := r1.fh 0
  have HR2 : Hid (Rep L { R with lk := 0 } ((w.setCell ⟨L.h, 0, none⟩ (.int .i32 1)).setCell ⟨L.h, 0, none⟩ (.int .i32 0))) := r2
  have HG : Hid (Good L R S) := hg
  clear r1 r2 hr hg hdd
  go_enter_defers Try.func37, Try.ntmps37
  go_wp2_with (go_at_call 59; refine (lock_free Try.muLib ⟨L.h, 0, none⟩ _ l0 f0).mono ?_; rintro e w' ⟨rfl, rfl⟩)
  refine leaves_cons (f := 60) (args := #[.pointer (some ⟨L.h, 0, none⟩)]) (by simp) (by simp [go_sem]) ?_
  refine (unlock_deferred Try.muLib ⟨L.h, 0, none⟩ .returning _ l1 f1).mono ?_
  rintro e u' w'' ⟨rfl, rfl, rfl⟩
  refine ⟨_, results_tmp rfl _ _ _, rfl, ⟨R, HR2.out.eqR ?_, HG.out⟩, ((Mod.refl _ _).setCell (Or.inl (own_h L)) _).setCell (Or.inl (own_h L)) _⟩
  have := HG.out.lk
  cases R; simp_all

end Go.Proofs.Qxb6616570a
