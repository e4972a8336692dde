/- What a history of one record, its entries and their parts look like in memory ('Rep'); what may turn ('Mod'). Plain facts on worlds; no program. -/
import Derived.WalkKit
namespace Go.Proofs.Qxb6616570a
open Go.RowKit

/-- A pointer to the head of block b. -/
abbrev ptr (b : Nat) : Value := .pointer (some ⟨b, 0, none⟩)

/-- Nothing that was there has turned but (perhaps) the blocks in M; new blocks may have come. -/
structure Mod (M : Nat → Prop) (w w' : World) : Prop where
  os : w'.os = w.os
  tape : w'.tape = w.tape
  output : w'.output = w.output
  size : w.heap.size ≤ w'.heap.size
  keep : ∀ k, k < w.heap.size → ¬ M k → w'.heap[k]? = w.heap[k]?

theorem Mod.refl (M : Nat → Prop) (w : World) : Mod M w w := ⟨rfl, rfl, rfl, Nat.le_refl _, fun _ _ _ => rfl⟩
theorem Mod.trans {M : Nat → Prop} {a b c : World} (h : Mod M a b) (k : Mod M b c) : Mod M a c :=
  ⟨k.os.trans h.os, k.tape.trans h.tape, k.output.trans h.output, Nat.le_trans h.size k.size,
    fun i hi hm => (k.keep i (Nat.lt_of_lt_of_le hi h.size) hm).trans (h.keep i hi hm)⟩
theorem Mod.mono {M N : Nat → Prop} {a b : World} (h : Mod M a b) (hs : ∀ k, k < a.heap.size → M k → N k) : Mod N a b :=
  ⟨h.os, h.tape, h.output, h.size, fun i hi hn => h.keep i hi (fun hm => hn (hs i hi hm))⟩
theorem Mod.drew {M : Nat → Prop} {a w : World} (h : Mod M a w) : Mod M a w.drew := ⟨h.os, h.tape, h.output, h.size, h.keep⟩
theorem Mod.alloc {M : Nat → Prop} {a w : World} (h : Mod M a w) (o : Obj) : Mod M a (w.alloc o) :=
  h.trans ⟨rfl, rfl, rfl, by simp, fun k hk _ => Below.heap_alloc _ _ _ hk⟩
theorem Mod.setCell {M : Nat → Prop} {a w : World} (h : Mod M a w) {p : Addr} (hp : M p.block ∨ a.heap.size ≤ p.block) (u : Value) : Mod M a (w.setCell p u) := by
  refine ⟨h.os, h.tape, h.output, by simpa using h.size, fun k hk hm => ?_⟩
  rw [Below.heap_setCell _ _ _ _ (by rcases hp with hp | hp; exact fun e => hm (e ▸ hp); omega)]
  exact h.keep k hk hm
theorem Mod.grown {M : Nat → Prop} {a w w' : World} (h : Mod M a w) (hg : w.grownBy w' none) : Mod M a w' :=
  h.trans ⟨hg.os, hg.tape, hg.output, hg.size, fun k hk _ => hg.block k hk (by simp)⟩
theorem Mod.of_below {w w' : World} (h : Below w.heap.size w w') (M : Nat → Prop) : Mod M w w' :=
  ⟨h.os, h.tape, h.output, h.size, fun k hk _ => h.block k hk⟩
theorem Mod.below {M : Nat → Prop} {w w' : World} (h : Mod M w w') {B : Nat} (hB : B ≤ w.heap.size) (hM : ∀ k, M k → B ≤ k) : Below B w w' :=
  ⟨h.os, h.tape, h.output, h.size, fun k hk => h.keep k (by omega) (fun hm => by have := hM k hm; omega)⟩
/-- Nothing turns: the case of a function that only makes memory. -/
theorem Mod.still_below {w w' : World} (h : Mod (fun _ => False) w w') : Below w.heap.size w w' := h.below (Nat.le_refl _) (fun _ h => h.elim)

theorem heap_lt {w : World} {b : Nat} {o : Obj} (h : w.heap[b]? = some o) : b < w.heap.size := by
  rcases Nat.lt_or_ge b w.heap.size with h' | h'
  · exact h'
  · rw [Array.getElem?_eq_none h'] at h; cases h

theorem Mod.stays {M : Nat → Prop} {w w' : World} (h : Mod M w w') {b : Nat} {o : Obj} (hb : w.heap[b]? = some o) (hm : ¬ M b) : w'.heap[b]? = some o :=
  (h.keep b (heap_lt hb) hm).trans hb

theorem cell_of {w : World} {b k : Nat} {c : Array Value} {t : TypeId} {z : Nat × Nat} {v : Value} (h : w.heap[b]? = some (.cells c t z)) (hv : c[k]? = some v) : w.cell? ⟨b, k, none⟩ = some v := by
  simp [World.cell?, h, hv]
theorem frozen_of {w : World} {b : Nat} {c : Array Value} {t : TypeId} (h : w.heap[b]? = some (.cells c t)) (k : Nat) : w.frozen? ⟨b, k, none⟩ = false := by
  simp [World.frozen?, h]
theorem heap_set_same {w : World} {b k : Nat} {c : Array Value} {t : TypeId} {z : Nat × Nat} (h : w.heap[b]? = some (.cells c t z)) (v : Value) :
    (w.setCell ⟨b, k, none⟩ v).heap[b]? = some (.cells (c.setIfInBounds k v) t z) := by
  simp [World.setCell, Array.getElem?_modify, h]
theorem heap_set_other {w : World} {b k : Nat} (p : Nat) (h : p ≠ b) (v : Value) : (w.setCell ⟨b, k, none⟩ v).heap[p]? = w.heap[p]? :=
  Below.heap_setCell _ _ _ _ h

/-- Where things lie. -/
structure Lay where
  n : Nat
  h : Nat
  m : Nat
  r : Nat
  pb : Nat
  eb : Nat
  P : Nat → Nat
  E : Nat → Nat
  peer : ByteArray
  follow : Nat → Bool
  base : Nat

/-- A pointer to entry k; nil for a negative k. -/
def Lay.ep (L : Lay) (k : Int) : Value := .pointer (if k < 0 then none else some ⟨L.E k.toNat, 0, none⟩)

/-- What is held there. -/
structure Raw where
  lk : Int
  has : Bool
  failures : Int
  failing : Bool
  dialer : Int
  offer : Int
  head : Int
  rf : Nat → Bool
  nx : Nat → Int
  en : Nat → Bool
  pn : Nat → Bool
  ph : Nat → Bool
  outc : Nat → Int

def upd {α : Type} (f : Nat → α) (i : Nat) (v : α) : Nat → α := fun j => if j = i then v else f j
theorem upd_same {α : Type} (f : Nat → α) (i : Nat) (v : α) : upd f i v i = v := by simp [upd]
theorem upd_other {α : Type} (f : Nat → α) {i j : Nat} (v : α) (h : j ≠ i) : upd f i v j = f j := by simp [upd, h]

def Lay.hC (L : Lay) (R : Raw) : Array Value := #[.int .i32 R.lk, .int .u32 0, .map (some L.m), .int .i64 0]
def Lay.mO (L : Lay) (R : Raw) (born clk : Nat) : Obj := .map (if R.has then #[{ key := .string L.peer, val := ptr L.r, born := born }] else #[]) clk
def Lay.rC (L : Lay) (R : Raw) : Array Value := #[.int .i64 R.failures, .int .u64 0, .int .i64 0, .pointer none, .bool R.failing, L.ep R.dialer, L.ep R.offer, L.ep R.head]
def Lay.eC (L : Lay) (R : Raw) (j : Nat) : Array Value := #[ptr (L.P j), .string L.peer, .pointer (if R.rf j then some ⟨L.r, 0, none⟩ else none), L.ep (R.nx j), .bool (R.en j), .int .u8 (R.outc j)]
def Lay.pC (L : Lay) (R : Raw) (j : Nat) (nv : Value) : Array Value := #[ptr L.h, .bool (L.follow j), nv, .chan none, .int .u32 (if R.ph j then 1 else 0)]

/-- The part's news: none, or just its entry. -/
def newsOk (L : Lay) (w : World) (j : Nat) (b : Bool) (nv : Value) : Prop :=
  (b = false ∧ nv = .slice none 0 0) ∨ (b = true ∧ ∃ g cap c z, nv = .slice (some ⟨g, 0, none⟩) 1 cap ∧ w.heap[g]? = some (.cells c 37 z) ∧ c[0]? = some (ptr (L.E j)))

structure Rep (L : Lay) (R : Raw) (w : World) : Prop where
  hh : w.heap[L.h]? = some (.cells (L.hC R) 98)
  hm : ∃ born clk, w.heap[L.m]? = some (L.mO R born clk)
  hr : w.heap[L.r]? = some (.cells (L.rC R) 86)
  he : ∀ j, j < L.n → w.heap[L.E j]? = some (.cells (L.eC R j) 109)
  hp : ∀ j, j < L.n → ∃ nv, w.heap[L.P j]? = some (.cells (L.pC R j nv) 106) ∧ newsOk L w j (R.pn j) nv
  hpb : ∃ c, w.heap[L.pb]? = some (.cells c 60) ∧ ∀ j, j < L.n → c[j]? = some (ptr (L.P j))
  heb : ∃ c, w.heap[L.eb]? = some (.cells c 37) ∧ ∀ j, j < L.n → c[j]? = some (ptr (L.E j))
  injE : ∀ j k, j < L.n → k < L.n → L.E j = L.E k → j = k
  injP : ∀ j k, j < L.n → k < L.n → L.P j = L.P k → j = k
  bh : L.base ≤ L.h
  bm : L.base ≤ L.m
  br : L.base ≤ L.r
  bE : ∀ j, j < L.n → L.base ≤ L.E j
  bP : ∀ j, j < L.n → L.base ≤ L.P j

/-- The blocks that the history's own code may write. -/
def Lay.own (L : Lay) (k : Nat) : Prop := k = L.h ∨ k = L.m ∨ k = L.r ∨ ∃ j, j < L.n ∧ (k = L.P j ∨ k = L.E j)

/-- A block's kind: cells of type t: t + 1; anything else: 0. -/
def tag : Obj → Nat | .cells _ t _ => t + 1 | _ => 0

theorem ne_of_tag {w : World} {a b : Nat} {x y : Obj} (ha : w.heap[a]? = some x) (hb : w.heap[b]? = some y) (h : tag x ≠ tag y) : a ≠ b := by
  intro e; subst e; rw [ha] at hb; cases hb; exact h rfl

section
variable {L : Lay} {R : Raw} {w : World}

theorem Rep.own_base (h : Rep L R w) (k : Nat) (hk : L.own k) : L.base ≤ k := by
  rcases hk with rfl | rfl | rfl | ⟨j, hj, rfl | rfl⟩
  · exact h.bh
  · exact h.bm
  · exact h.br
  · exact h.bP j hj
  · exact h.bE j hj

/-- The tags of what the history's own code may write. -/
theorem Rep.own_tag (h : Rep L R w) {k : Nat} (hk : L.own k) {o : Obj} (ho : w.heap[k]? = some o) : tag o = 99 ∨ tag o = 0 ∨ tag o = 87 ∨ tag o = 107 ∨ tag o = 110 := by
  rcases hk with rfl | rfl | rfl | ⟨j, hj, rfl | rfl⟩
  · rw [h.hh] at ho; cases ho; simp [tag]
  · obtain ⟨b, c, hm⟩ := h.hm; rw [hm] at ho; cases ho; simp [tag, Lay.mO]
  · rw [h.hr] at ho; cases ho; simp [tag]
  · obtain ⟨nv, hp, _⟩ := h.hp j hj; rw [hp] at ho; cases ho; simp [tag]
  · rw [h.he j hj] at ho; cases ho; simp [tag]

/-- REP STANDS where only blocks of other kinds have turned. -/
theorem Rep.mod (h : Rep L R w) {M : Nat → Prop} {w' : World} (hm : Mod M w w')
    (hM : ∀ k o, M k → w.heap[k]? = some o → tag o ≠ 99 ∧ tag o ≠ 0 ∧ tag o ≠ 87 ∧ tag o ≠ 107 ∧ tag o ≠ 110 ∧ tag o ≠ 61 ∧ tag o ≠ 38) : Rep L R w' := by
  have st : ∀ {b : Nat} {o : Obj}, w.heap[b]? = some o → (tag o = 99 ∨ tag o = 0 ∨ tag o = 87 ∨ tag o = 107 ∨ tag o = 110 ∨ tag o = 61 ∨ tag o = 38) → w'.heap[b]? = some o :=
    fun {b o} hb ht => hm.stays hb (fun hk => by have := hM b o hk hb; omega)
  obtain ⟨born, clk, hmm⟩ := h.hm
  obtain ⟨c1, h1, h1'⟩ := h.hpb
  obtain ⟨c2, h2, h2'⟩ := h.heb
  refine ⟨st h.hh (by simp [tag]), ⟨born, clk, st hmm (by simp [tag, Lay.mO])⟩, st h.hr (by simp [tag]), fun j hj => st (h.he j hj) (by simp [tag]), fun j hj => ?_,
    ⟨c1, st h1 (by simp [tag]), h1'⟩, ⟨c2, st h2 (by simp [tag]), h2'⟩, h.injE, h.injP, h.bh, h.bm, h.br, h.bE, h.bP⟩
  obtain ⟨nv, hp, hn⟩ := h.hp j hj
  refine ⟨nv, st hp (by simp [tag]), ?_⟩
  rcases hn with hn | ⟨hb, g, cap, c, z, h3, h4, h5⟩
  · exact Or.inl hn
  · exact Or.inr ⟨hb, g, cap, c, z, h3, st h4 (by simp [tag]), h5⟩

theorem Rep.still (h : Rep L R w) {w' : World} (hm : Mod (fun _ => False) w w') : Rep L R w' := h.mod hm (fun _ _ hk => hk.elim)
theorem Rep.drew (h : Rep L R w) : Rep L R w.drew := h.still ((Mod.refl _ _).drew)
theorem Rep.alloc (h : Rep L R w) (o : Obj) : Rep L R (w.alloc o) := h.still ((Mod.refl _ _).alloc o)

/-- THE GENERAL STEP: one cell of one own block turns; the block of that kind reads as R' says; all others read under R' as under R. -/
theorem Rep.setR (h : Rep L R w) {R' : Raw} (k : Nat) (v : Value) (hc : (L.rC R).setIfInBounds k v = L.rC R') (h1 : L.hC R' = L.hC R) (h2 : R'.has = R.has) (h3 : ∀ j, L.eC R' j = L.eC R j) (h4 : ∀ j nv, L.pC R' j nv = L.pC R j nv) (h5 : R'.pn = R.pn) :
    Rep L R' (w.setCell ⟨L.r, k, none⟩ v) := by
  have ot : ∀ {b : Nat} {o : Obj}, w.heap[b]? = some o → tag o ≠ 87 → (w.setCell ⟨L.r, k, none⟩ v).heap[b]? = some o :=
    fun {b o} hb ht => (heap_set_other b (ne_of_tag hb h.hr (by simpa [tag] using ht)) v).trans hb
  obtain ⟨born, clk, hmm⟩ := h.hm
  obtain ⟨c1, g1, g1'⟩ := h.hpb
  obtain ⟨c2, g2, g2'⟩ := h.heb
  refine ⟨h1 ▸ ot h.hh (by simp [tag]), ⟨born, clk, ?_⟩, hc ▸ heap_set_same h.hr v, fun j hj => h3 j ▸ ot (h.he j hj) (by simp [tag]), fun j hj => ?_,
    ⟨c1, ot g1 (by simp [tag]), g1'⟩, ⟨c2, ot g2 (by simp [tag]), g2'⟩, h.injE, h.injP, h.bh, h.bm, h.br, h.bE, h.bP⟩
  · have e : L.mO R' born clk = L.mO R born clk := by simp [Lay.mO, h2]
    rw [e]; exact ot hmm (by simp [tag, Lay.mO])
  · obtain ⟨nv, hp, hn⟩ := h.hp j hj
    refine ⟨nv, h4 j nv ▸ ot hp (by simp [tag]), ?_⟩
    rw [h5]
    rcases hn with hn | ⟨hb, g, cap, c, z, h3, h4, h5⟩
    · exact Or.inl hn
    · exact Or.inr ⟨hb, g, cap, c, z, h3, ot h4 (by simp [tag]), h5⟩

theorem Rep.setDialer (h : Rep L R w) (d : Int) : Rep L { R with dialer := d } (w.setCell ⟨L.r, 5, none⟩ (L.ep d)) :=
  h.setR 5 _ rfl rfl rfl (fun _ => rfl) (fun _ _ => rfl) rfl
theorem Rep.setOffer (h : Rep L R w) (d : Int) : Rep L { R with offer := d } (w.setCell ⟨L.r, 6, none⟩ (L.ep d)) :=
  h.setR 6 _ rfl rfl rfl (fun _ => rfl) (fun _ _ => rfl) rfl
theorem Rep.setHead (h : Rep L R w) (d : Int) : Rep L { R with head := d } (w.setCell ⟨L.r, 7, none⟩ (L.ep d)) :=
  h.setR 7 _ rfl rfl rfl (fun _ => rfl) (fun _ _ => rfl) rfl
theorem Rep.setFailures (h : Rep L R w) (d : Int) : Rep L { R with failures := d } (w.setCell ⟨L.r, 0, none⟩ (.int .i64 d)) :=
  h.setR 0 _ rfl rfl rfl (fun _ => rfl) (fun _ _ => rfl) rfl
theorem Rep.setFailing (h : Rep L R w) (d : Bool) : Rep L { R with failing := d } (w.setCell ⟨L.r, 4, none⟩ (.bool d)) :=
  h.setR 4 _ rfl rfl rfl (fun _ => rfl) (fun _ _ => rfl) rfl

theorem Rep.setLk (h : Rep L R w) (x : Int) : Rep L { R with lk := x } (w.setCell ⟨L.h, 0, none⟩ (.int .i32 x)) := by
  have ot : ∀ {b : Nat} {o : Obj}, w.heap[b]? = some o → tag o ≠ 99 → (w.setCell ⟨L.h, 0, none⟩ (.int .i32 x)).heap[b]? = some o :=
    fun {b o} hb ht => (heap_set_other b (ne_of_tag hb h.hh (by simpa [tag] using ht)) _).trans hb
  obtain ⟨born, clk, hmm⟩ := h.hm
  obtain ⟨c1, g1, g1'⟩ := h.hpb
  obtain ⟨c2, g2, g2'⟩ := h.heb
  refine ⟨heap_set_same h.hh _, ⟨born, clk, ot hmm (by simp [tag, Lay.mO])⟩, ot h.hr (by simp [tag]), fun j hj => ot (h.he j hj) (by simp [tag]), fun j hj => ?_,
    ⟨c1, ot g1 (by simp [tag]), g1'⟩, ⟨c2, ot g2 (by simp [tag]), g2'⟩, h.injE, h.injP, h.bh, h.bm, h.br, h.bE, h.bP⟩
  obtain ⟨nv, hp, hn⟩ := h.hp j hj
  refine ⟨nv, ot hp (by simp [tag]), ?_⟩
  rcases hn with hn | ⟨hb, g, cap, c, z, h3, h4, h5⟩
  · exact Or.inl hn
  · exact Or.inr ⟨hb, g, cap, c, z, h3, ot h4 (by simp [tag]), h5⟩

/-- One cell of entry i turns. -/
theorem Rep.setE (h : Rep L R w) {R' : Raw} {i : Nat} (hi : i < L.n) (k : Nat) (v : Value) (hc : (L.eC R i).setIfInBounds k v = L.eC R' i) (ho : ∀ j, j ≠ i → L.eC R' j = L.eC R j)
    (h1 : L.hC R' = L.hC R) (h2 : R'.has = R.has) (h3 : L.rC R' = L.rC R) (h4 : ∀ j nv, L.pC R' j nv = L.pC R j nv) (h5 : R'.pn = R.pn) :
    Rep L R' (w.setCell ⟨L.E i, k, none⟩ v) := by
  have ot : ∀ {b : Nat} {o : Obj}, w.heap[b]? = some o → tag o ≠ 110 → (w.setCell ⟨L.E i, k, none⟩ v).heap[b]? = some o :=
    fun {b o} hb ht => (heap_set_other b (ne_of_tag hb (h.he i hi) (by simpa [tag] using ht)) v).trans hb
  obtain ⟨born, clk, hmm⟩ := h.hm
  obtain ⟨c1, g1, g1'⟩ := h.hpb
  obtain ⟨c2, g2, g2'⟩ := h.heb
  refine ⟨h1 ▸ ot h.hh (by simp [tag]), ⟨born, clk, ?_⟩, h3 ▸ ot h.hr (by simp [tag]), fun j hj => ?_, fun j hj => ?_,
    ⟨c1, ot g1 (by simp [tag]), g1'⟩, ⟨c2, ot g2 (by simp [tag]), g2'⟩, h.injE, h.injP, h.bh, h.bm, h.br, h.bE, h.bP⟩
  · have e : L.mO R' born clk = L.mO R born clk := by simp [Lay.mO, h2]
    rw [e]; exact ot hmm (by simp [tag, Lay.mO])
  · by_cases e : j = i
    · subst e; rw [← hc]; exact heap_set_same (h.he j hj) v
    · rw [ho j e, heap_set_other _ (fun e' => e (h.injE j i hj hi e'))]; exact h.he j hj
  · obtain ⟨nv, hp, hn⟩ := h.hp j hj
    refine ⟨nv, h4 j nv ▸ ot hp (by simp [tag]), ?_⟩
    rw [h5]
    rcases hn with hn | ⟨hb, g, cap, c, z, h3, h4, h5⟩
    · exact Or.inl hn
    · exact Or.inr ⟨hb, g, cap, c, z, h3, ot h4 (by simp [tag]), h5⟩

theorem Rep.setRf (h : Rep L R w) {i : Nat} (hi : i < L.n) : Rep L { R with rf := upd R.rf i false } (w.setCell ⟨L.E i, 2, none⟩ (.pointer none)) :=
  h.setE hi 2 _ (by simp [Lay.eC, upd]) (fun j hj => by simp [Lay.eC, upd, hj]) rfl rfl rfl (fun _ _ => rfl) rfl
theorem Rep.setNx (h : Rep L R w) {i : Nat} (hi : i < L.n) (d : Int) : Rep L { R with nx := upd R.nx i d } (w.setCell ⟨L.E i, 3, none⟩ (L.ep d)) :=
  h.setE hi 3 _ (by simp [Lay.eC, upd]) (fun j hj => by simp [Lay.eC, upd, hj]) rfl rfl rfl (fun _ _ => rfl) rfl
theorem Rep.setEn (h : Rep L R w) {i : Nat} (hi : i < L.n) (b : Bool) : Rep L { R with en := upd R.en i b } (w.setCell ⟨L.E i, 4, none⟩ (.bool b)) :=
  h.setE hi 4 _ (by simp [Lay.eC, upd]) (fun j hj => by simp [Lay.eC, upd, hj]) rfl rfl rfl (fun _ _ => rfl) rfl
theorem Rep.setOutc (h : Rep L R w) {i : Nat} (hi : i < L.n) (x : Int) : Rep L { R with outc := upd R.outc i x } (w.setCell ⟨L.E i, 5, none⟩ (.int .u8 x)) :=
  h.setE hi 5 _ (by simp [Lay.eC, upd]) (fun j hj => by simp [Lay.eC, upd, hj]) rfl rfl rfl (fun _ _ => rfl) rfl

/-- One cell of part i turns. -/
theorem Rep.setP (h : Rep L R w) {R' : Raw} {i : Nat} (hi : i < L.n) (k : Nat) (v : Value)
    (hc : ∀ nv, newsOk L w i (R.pn i) nv → ∃ nv', (L.pC R i nv).setIfInBounds k v = L.pC R' i nv' ∧ newsOk L w i (R'.pn i) nv') (ho : ∀ j nv, j ≠ i → L.pC R' j nv = L.pC R j nv)
    (h1 : L.hC R' = L.hC R) (h2 : R'.has = R.has) (h3 : L.rC R' = L.rC R) (h4 : ∀ j, L.eC R' j = L.eC R j) (h5 : ∀ j, j ≠ i → R'.pn j = R.pn j) :
    Rep L R' (w.setCell ⟨L.P i, k, none⟩ v) := by
  obtain ⟨nvi, hpi, hni⟩ := h.hp i hi
  have ot : ∀ {b : Nat} {o : Obj}, w.heap[b]? = some o → tag o ≠ 107 → (w.setCell ⟨L.P i, k, none⟩ v).heap[b]? = some o :=
    fun {b o} hb ht => (heap_set_other b (ne_of_tag hb hpi (by simpa [tag] using ht)) v).trans hb
  have nk : ∀ {j : Nat} {b : Bool} {nv : Value}, newsOk L w j b nv → newsOk L (w.setCell ⟨L.P i, k, none⟩ v) j b nv := fun {j b nv} hn => by
    rcases hn with hn | ⟨hb, g, cap, c, z, h3, h4, h5⟩
    · exact Or.inl hn
    · exact Or.inr ⟨hb, g, cap, c, z, h3, ot h4 (by simp [tag]), h5⟩
  obtain ⟨born, clk, hmm⟩ := h.hm
  obtain ⟨c1, g1, g1'⟩ := h.hpb
  obtain ⟨c2, g2, g2'⟩ := h.heb
  refine ⟨h1 ▸ ot h.hh (by simp [tag]), ⟨born, clk, ?_⟩, h3 ▸ ot h.hr (by simp [tag]), fun j hj => h4 j ▸ ot (h.he j hj) (by simp [tag]), fun j hj => ?_,
    ⟨c1, ot g1 (by simp [tag]), g1'⟩, ⟨c2, ot g2 (by simp [tag]), g2'⟩, h.injE, h.injP, h.bh, h.bm, h.br, h.bE, h.bP⟩
  · have e : L.mO R' born clk = L.mO R born clk := by simp [Lay.mO, h2]
    rw [e]; exact ot hmm (by simp [tag, Lay.mO])
  · by_cases e : j = i
    · subst e
      obtain ⟨nv', e1, e2⟩ := hc nvi hni
      exact ⟨nv', by rw [← e1]; exact heap_set_same hpi v, nk e2⟩
    · obtain ⟨nv, hp, hn⟩ := h.hp j hj
      refine ⟨nv, ?_, ?_⟩
      · rw [ho j nv e, heap_set_other _ (fun e' => e (h.injP j i hj hi e'))]; exact hp
      · rw [h5 j e]; exact nk hn

theorem Rep.setPh (h : Rep L R w) {i : Nat} (hi : i < L.n) : Rep L { R with ph := upd R.ph i true } (w.setCell ⟨L.P i, 4, none⟩ (.int .u32 1)) :=
  h.setP hi 4 _ (fun nv hn => ⟨nv, by simp [Lay.pC, upd], hn⟩) (fun j nv hj => by simp [Lay.pC, upd, hj]) rfl rfl rfl (fun _ => rfl) (fun _ _ => rfl)

/-- The part's news: its entry alone, in a block g. -/
theorem Rep.setPn (h : Rep L R w) {i : Nat} (hi : i < L.n) {g cap : Nat} {c : Array Value} {z : Nat × Nat} (hg : w.heap[g]? = some (.cells c 37 z)) (hc : c[0]? = some (ptr (L.E i))) :
    Rep L { R with pn := upd R.pn i true } (w.setCell ⟨L.P i, 2, none⟩ (.slice (some ⟨g, 0, none⟩) 1 cap)) :=
  h.setP hi 2 _ (fun nv hn => ⟨.slice (some ⟨g, 0, none⟩) 1 cap, by simp [Lay.pC], Or.inr ⟨by simp [upd], g, cap, c, z, rfl, hg, hc⟩⟩) (fun j nv hj => by simp [Lay.pC]) rfl rfl rfl (fun _ => rfl) (fun j hj => by simp [upd, hj])

end
end Go.Proofs.Qxb6616570a
