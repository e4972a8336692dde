/- What may turn ('Mod'); blocks and cells. Plain facts on worlds. -/
import Derived.WalkKit
import Derived.Deep.Draws
set_option linter.unusedSimpArgs false
set_option linter.unusedVariables false
namespace Go.Proofs.Qxb6616897a
open Go.RowKit

/-- Nothing that was there has turned but (perhaps) the blocks in M; new blocks may have come. -/
structure Mod (M : Nat → Prop) (w w' : World) : Prop where
  os : w'.os = w.os
  tape : w'.tape = w.tape
  output : w'.output = w.output
  size : w.heap.size ≤ w'.heap.size
  keep : ∀ k, k < w.heap.size → ¬ M k → w'.heap[k]? = w.heap[k]?

theorem Mod.refl (M : Nat → Prop) (w : World) : Mod M w w := ⟨rfl, rfl, rfl, Nat.le_refl _, fun _ _ _ => rfl⟩
theorem Mod.trans {M : Nat → Prop} {a b c : World} (h : Mod M a b) (k : Mod M b c) : Mod M a c :=
  ⟨k.os.trans h.os, k.tape.trans h.tape, k.output.trans h.output, Nat.le_trans h.size k.size,
    fun i hi hm => (k.keep i (Nat.lt_of_lt_of_le hi h.size) hm).trans (h.keep i hi hm)⟩
theorem Mod.mono {M N : Nat → Prop} {a b : World} (h : Mod M a b) (hs : ∀ k, k < a.heap.size → M k → N k) : Mod N a b :=
  ⟨h.os, h.tape, h.output, h.size, fun i hi hn => h.keep i hi (fun hm => hn (hs i hi hm))⟩
theorem Mod.drew {M : Nat → Prop} {a w : World} (h : Mod M a w) : Mod M a w.drew := ⟨h.os, h.tape, h.output, h.size, h.keep⟩
theorem Mod.alloc {M : Nat → Prop} {a w : World} (h : Mod M a w) (o : Obj) : Mod M a (w.alloc o) :=
  h.trans ⟨rfl, rfl, rfl, by simp, fun k hk _ => Below.heap_alloc _ _ _ hk⟩
theorem Mod.setCell {M : Nat → Prop} {a w : World} (h : Mod M a w) {p : Addr} (hp : M p.block ∨ a.heap.size ≤ p.block) (u : Value) : Mod M a (w.setCell p u) := by
  refine ⟨h.os, h.tape, h.output, by simpa using h.size, fun k hk hm => ?_⟩
  rw [Below.heap_setCell _ _ _ _ (by rcases hp with hp | hp; exact fun e => hm (e ▸ hp); omega)]
  exact h.keep k hk hm
theorem Mod.grown {M : Nat → Prop} {a w w' : World} (h : Mod M a w) (hg : w.grownBy w' none) : Mod M a w' :=
  h.trans ⟨hg.os, hg.tape, hg.output, hg.size, fun k hk _ => hg.block k hk (by simp)⟩
theorem Mod.of_below {w w' : World} (h : Below w.heap.size w w') (M : Nat → Prop) : Mod M w w' :=
  ⟨h.os, h.tape, h.output, h.size, fun k hk _ => h.block k hk⟩
theorem Mod.below {M : Nat → Prop} {w w' : World} (h : Mod M w w') {B : Nat} (hB : B ≤ w.heap.size) (hM : ∀ k, M k → B ≤ k) : Below B w w' :=
  ⟨h.os, h.tape, h.output, h.size, fun k hk => h.keep k (by omega) (fun hm => by have := hM k hm; omega)⟩
/-- Nothing turns: the case of a function that only makes memory. -/
theorem Mod.still_below {w w' : World} (h : Mod (fun _ => False) w w') : Below w.heap.size w w' := h.below (Nat.le_refl _) (fun _ h => h.elim)

theorem heap_lt {w : World} {b : Nat} {o : Obj} (h : w.heap[b]? = some o) : b < w.heap.size := by
  rcases Nat.lt_or_ge b w.heap.size with h' | h'
  · exact h'
  · rw [Array.getElem?_eq_none h'] at h; cases h

theorem Mod.stays {M : Nat → Prop} {w w' : World} (h : Mod M w w') {b : Nat} {o : Obj} (hb : w.heap[b]? = some o) (hm : ¬ M b) : w'.heap[b]? = some o :=
  (h.keep b (heap_lt hb) hm).trans hb

theorem cell_of {w : World} {b k : Nat} {c : Array Value} {t : TypeId} {z : Nat × Nat} {v : Value} (h : w.heap[b]? = some (.cells c t z)) (hv : c[k]? = some v) : w.cell? ⟨b, k, none⟩ = some v := by
  simp [World.cell?, h, hv]
theorem frozen_of {w : World} {b : Nat} {c : Array Value} {t : TypeId} (h : w.heap[b]? = some (.cells c t)) (k : Nat) : w.frozen? ⟨b, k, none⟩ = false := by
  simp [World.frozen?, h]
theorem heap_set_same {w : World} {b k : Nat} {c : Array Value} {t : TypeId} {z : Nat × Nat} (h : w.heap[b]? = some (.cells c t z)) (v : Value) :
    (w.setCell ⟨b, k, none⟩ v).heap[b]? = some (.cells (c.setIfInBounds k v) t z) := by
  simp [World.setCell, Array.getElem?_modify, h]
theorem heap_set_other {w : World} {b k : Nat} (p : Nat) (h : p ≠ b) (v : Value) : (w.setCell ⟨b, k, none⟩ v).heap[p]? = w.heap[p]? :=
  Below.heap_setCell _ _ _ _ h


theorem Mod.drewN {M : Nat → Prop} {a w : World} (h : Mod M a w) (n : Nat) : Mod M a (w.drewN n) := ⟨h.os, h.tape, h.output, h.size, h.keep⟩
end Go.Proofs.Qxb6616897a
