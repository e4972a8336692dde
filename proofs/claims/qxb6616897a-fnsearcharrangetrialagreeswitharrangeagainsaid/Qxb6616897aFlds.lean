/- ZZsearchFields. -/
import Derived.Test.Qxb6616897aWalk2
import Derived.Deep.Cut
import Derived.Deep.RegionHeld3
set_option linter.unusedSimpArgs false
set_option linter.unusedVariables false
namespace Go.Proofs.Qxb6616897a
open Go.RowKit

def zero48 : Obj := .cells #[.int .i64 0, .int .i64 0, .int .i64 0, .int .i64 0, .int .i64 0, .int .u8 0, .int .u32 0, .int .i64 0, .int .i64 0, .int .i64 0, .bool false, .int .i64 0, .int .i64 0] 48

theorem heap_new (w : World) (o : Obj) : (w.alloc o).heap[w.heap.size]? = some o := by
  show (w.heap.push o)[w.heap.size]? = some o
  simp
theorem heap_old {w : World} {b : Nat} {x : Obj} (h : w.heap[b]? = some x) (o : Obj) : (w.alloc o).heap[b]? = some x := (Below.heap_alloc _ _ _ (heap_lt h)).trans h

/-- Thirteen cells stored in a row. -/
def put13 (w : World) (N : Nat) (v0 v1 v2 v3 v4 v5 v6 v7 v8 v9 v10 v11 v12 : Value) : World :=
  ((((((((((((w.setCell ⟨N, 0, none⟩ v0).setCell ⟨N, 1, none⟩ v1).setCell ⟨N, 2, none⟩ v2).setCell ⟨N, 3, none⟩ v3).setCell ⟨N, 4, none⟩ v4).setCell ⟨N, 5, none⟩ v5).setCell ⟨N, 6, none⟩ v6).setCell ⟨N, 7, none⟩ v7).setCell ⟨N, 8, none⟩ v8).setCell ⟨N, 9, none⟩ v9).setCell ⟨N, 10, none⟩ v10).setCell ⟨N, 11, none⟩ v11).setCell ⟨N, 12, none⟩ v12
theorem put13_heap {w : World} {N : Nat} {a0 a1 a2 a3 a4 a5 a6 a7 a8 a9 a10 a11 a12 : Value} {t : TypeId} (hb : w.heap[N]? = some (.cells #[a0, a1, a2, a3, a4, a5, a6, a7, a8, a9, a10, a11, a12] t)) (v0 v1 v2 v3 v4 v5 v6 v7 v8 v9 v10 v11 v12 : Value) :
    (put13 w N v0 v1 v2 v3 v4 v5 v6 v7 v8 v9 v10 v11 v12).heap[N]? = some (.cells #[v0, v1, v2, v3, v4, v5, v6, v7, v8, v9, v10, v11, v12] t) := by
  unfold put13
  rw [heap_set_same (heap_set_same (heap_set_same (heap_set_same (heap_set_same (heap_set_same (heap_set_same (heap_set_same (heap_set_same (heap_set_same (heap_set_same (heap_set_same (heap_set_same hb _) _) _) _) _) _) _) _) _) _) _) _) _]
  simp
theorem put13_mod {M : Nat → Prop} {a w : World} (h : Mod M a w) {N : Nat} (hp : M N ∨ a.heap.size ≤ N) (v0 v1 v2 v3 v4 v5 v6 v7 v8 v9 v10 v11 v12 : Value) : Mod M a (put13 w N v0 v1 v2 v3 v4 v5 v6 v7 v8 v9 v10 v11 v12) :=
  ((((((((((((h.setCell (p := ⟨N, 0, none⟩) hp v0).setCell (p := ⟨N, 1, none⟩) hp v1).setCell (p := ⟨N, 2, none⟩) hp v2).setCell (p := ⟨N, 3, none⟩) hp v3).setCell (p := ⟨N, 4, none⟩) hp v4).setCell (p := ⟨N, 5, none⟩) hp v5).setCell (p := ⟨N, 6, none⟩) hp v6).setCell (p := ⟨N, 7, none⟩) hp v7).setCell (p := ⟨N, 8, none⟩) hp v8).setCell (p := ⟨N, 9, none⟩) hp v9).setCell (p := ⟨N, 10, none⟩) hp v10).setCell (p := ⟨N, 11, none⟩) hp v11).setCell (p := ⟨N, 12, none⟩) hp v12

theorem put13_other {w : World} {N p : Nat} (h : p ≠ N) (v0 v1 v2 v3 v4 v5 v6 v7 v8 v9 v10 v11 v12 : Value) : (put13 w N v0 v1 v2 v3 v4 v5 v6 v7 v8 v9 v10 v11 v12).heap[p]? = w.heap[p]? := by
  unfold put13
  simp only [heap_set_other p h]

theorem SRep.cells13 {s : Sr} {sb fb0 : Nat} {w' : World} (h : w'.heap[sb]? = some (.cells (s.cells fb0) 65)) : w'.cell? ⟨sb, 0, none⟩ = some (.int .i64 s.safe) ∧ w'.cell? ⟨sb, 1, none⟩ = some (.int .i64 s.tooLong) ∧ w'.cell? ⟨sb, 2, none⟩ = some (.int .i64 s.tests) ∧ w'.cell? ⟨sb, 3, none⟩ = some (.int .i64 s.timeout) ∧ w'.cell? ⟨sb, 4, none⟩ = some (.int .i64 s.retries) ∧ w'.cell? ⟨sb, 7, none⟩ = some (.int .u8 s.phase) ∧ w'.cell? ⟨sb, 8, none⟩ = some (.int .u32 s.nonce) ∧ w'.cell? ⟨sb, 9, none⟩ = some (.int .i64 s.sends) ∧ w'.cell? ⟨sb, 10, none⟩ = some (.int .i64 s.arranged) ∧ w'.cell? ⟨sb, 11, none⟩ = some (.int .i64 s.due) ∧ w'.cell? ⟨sb, 12, none⟩ = some (.bool s.mapped) ∧ w'.cell? ⟨sb, 13, none⟩ = some (.int .i64 s.made) ∧ w'.cell? ⟨sb, 14, none⟩ = some (.int .i64 s.passed) :=
  ⟨cell_of h rfl, cell_of h rfl, cell_of h rfl, cell_of h rfl, cell_of h rfl, cell_of h rfl, cell_of h rfl, cell_of h rfl, cell_of h rfl, cell_of h rfl, cell_of h rfl, cell_of h rfl, cell_of h rfl⟩
theorem cell_drew (w : World) (a : Addr) : w.drew.cell? a = w.cell? a := rfl

set_option maxRecDepth 100000 in
set_option maxHeartbeats 4000000 in
theorem fields_any {s : Sr} {sb fb0 : Nat} {fresh : Int} {w : World} (h : SRep s sb fb0 fresh w) :
    Calls Try.prog 20 #[.pointer (some ⟨sb, 0, none⟩)] w fun e w' => e = .returned (.agg s.plain) ∧ Mod (fun _ => False) w w' := by
  go_enter Try.func20, Try.ntmps20
  go_upto_region 1 with fail
  have r1 : SRep s sb fb0 fresh (w.alloc (.cells #[.int .i64 0, .int .i64 0, .int .i64 0, .int .i64 0, .int .i64 0, .int .u8 0, .int .u32 0, .int .i64 0, .int .i64 0, .int .i64 0, .bool false, .int .i64 0, .int .i64 0] 48)) := ⟨heap_old h.hs _, heap_old h.hf _⟩
  have hb : (w.alloc (.cells #[.int .i64 0, .int .i64 0, .int .i64 0, .int .i64 0, .int .i64 0, .int .u8 0, .int .u32 0, .int .i64 0, .int .i64 0, .int .i64 0, .bool false, .int .i64 0, .int .i64 0] 48)).heap[w.heap.size]? = some (.cells #[.int .i64 0, .int .i64 0, .int .i64 0, .int .i64 0, .int .i64 0, .int .u8 0, .int .u32 0, .int .i64 0, .int .i64 0, .int .i64 0, .bool false, .int .i64 0, .int .i64 0] 48) := heap_new w _
  have m1 := (Mod.refl (fun _ => False) w).alloc (.cells #[.int .i64 0, .int .i64 0, .int .i64 0, .int .i64 0, .int .i64 0, .int .u8 0, .int .u32 0, .int .i64 0, .int .i64 0, .int .i64 0, .bool false, .int .i64 0, .int .i64 0] 48)
  have ne : sb ≠ w.heap.size := by have := heap_lt h.hs; omega
  have HM : Hid (Mod (fun _ => False) w (w.alloc (.cells #[.int .i64 0, .int .i64 0, .int .i64 0, .int .i64 0, .int .i64 0, .int .u8 0, .int .u32 0, .int .i64 0, .int .i64 0, .int .i64 0, .bool false, .int .i64 0, .int .i64 0] 48))) := m1
  obtain ⟨N, hN⟩ : ∃ N, N = w.heap.size := ⟨_, rfl⟩
  have HN : Hid (N = w.heap.size) := hN
  rw [← hN] at hb ne ⊢
  clear m1 hN h
  generalize w.alloc (.cells #[.int .i64 0, .int .i64 0, .int .i64 0, .int .i64 0, .int .i64 0, .int .u8 0, .int .u32 0, .int .i64 0, .int .i64 0, .int .i64 0, .bool false, .int .i64 0, .int .i64 0] 48) = w1 at r1 hb HM ⊢
  have c0 : w1.cell? ⟨sb, 0, none⟩ = some (.int .i64 s.safe) := cell_of r1.hs rfl
  have c1 : w1.cell? ⟨sb, 1, none⟩ = some (.int .i64 s.tooLong) := cell_of r1.hs rfl
  have c2 : w1.cell? ⟨sb, 2, none⟩ = some (.int .i64 s.tests) := cell_of r1.hs rfl
  have c3 : w1.cell? ⟨sb, 3, none⟩ = some (.int .i64 s.timeout) := cell_of r1.hs rfl
  have c4 : w1.cell? ⟨sb, 4, none⟩ = some (.int .i64 s.retries) := cell_of r1.hs rfl
  have c7 : w1.cell? ⟨sb, 7, none⟩ = some (.int .u8 s.phase) := cell_of r1.hs rfl
  have c8 : w1.cell? ⟨sb, 8, none⟩ = some (.int .u32 s.nonce) := cell_of r1.hs rfl
  have c9 : w1.cell? ⟨sb, 9, none⟩ = some (.int .i64 s.sends) := cell_of r1.hs rfl
  have c10 : w1.cell? ⟨sb, 10, none⟩ = some (.int .i64 s.arranged) := cell_of r1.hs rfl
  have c11 : w1.cell? ⟨sb, 11, none⟩ = some (.int .i64 s.due) := cell_of r1.hs rfl
  have c12 : w1.cell? ⟨sb, 12, none⟩ = some (.bool s.mapped) := cell_of r1.hs rfl
  have c13 : w1.cell? ⟨sb, 13, none⟩ = some (.int .i64 s.made) := cell_of r1.hs rfl
  have c14 : w1.cell? ⟨sb, 14, none⟩ = some (.int .i64 s.passed) := cell_of r1.hs rfl
  have b0 := cell_of hb (k := 0) rfl
  have b1 := cell_of hb (k := 1) rfl
  have b2 := cell_of hb (k := 2) rfl
  have b3 := cell_of hb (k := 3) rfl
  have b4 := cell_of hb (k := 4) rfl
  have b5 := cell_of hb (k := 5) rfl
  have b6 := cell_of hb (k := 6) rfl
  have b7 := cell_of hb (k := 7) rfl
  have b8 := cell_of hb (k := 8) rfl
  have b9 := cell_of hb (k := 9) rfl
  have b10 := cell_of hb (k := 10) rfl
  have b11 := cell_of hb (k := 11) rfl
  have b12 := cell_of hb (k := 12) rfl
  have fz := frozen_of hb
  have HB : Hid (w1.heap[N]? = some (.cells #[.int .i64 0, .int .i64 0, .int .i64 0, .int .i64 0, .int .i64 0, .int .u8 0, .int .u32 0, .int .i64 0, .int .i64 0, .int .i64 0, .bool false, .int .i64 0, .int .i64 0] 48)) := hb
  have hz := SRep.cells13 ((put13_other ne (.int .i64 s.safe) (.int .i64 s.tooLong) (.int .i64 s.tests) (.int .i64 s.timeout) (.int .i64 s.retries) (.int .u8 s.phase) (.int .u32 s.nonce) (.int .i64 s.sends) (.int .i64 s.arranged) (.int .i64 s.due) (.bool s.mapped) (.int .i64 s.made) (.int .i64 s.passed)).trans r1.hs)
  simp only [← cell_drew (put13 w1 N (.int .i64 s.safe) (.int .i64 s.tooLong) (.int .i64 s.tests) (.int .i64 s.timeout) (.int .i64 s.retries) (.int .u8 s.phase) (.int .u32 s.nonce) (.int .i64 s.sends) (.int .i64 s.arranged) (.int .i64 s.due) (.bool s.mapped) (.int .i64 s.made) (.int .i64 s.passed))] at hz
  unfold put13 at hz
  have HZ : Hid _ := hz
  clear hz
  clear r1 hb
  go_region_held3 (fun w' => w'.cell? ⟨sb, 0, none⟩ = some (.int .i64 s.safe) ∧ w'.cell? ⟨sb, 1, none⟩ = some (.int .i64 s.tooLong) ∧ w'.cell? ⟨sb, 2, none⟩ = some (.int .i64 s.tests) ∧ w'.cell? ⟨sb, 3, none⟩ = some (.int .i64 s.timeout) ∧ w'.cell? ⟨sb, 4, none⟩ = some (.int .i64 s.retries) ∧ w'.cell? ⟨sb, 7, none⟩ = some (.int .u8 s.phase) ∧ w'.cell? ⟨sb, 8, none⟩ = some (.int .u32 s.nonce) ∧ w'.cell? ⟨sb, 9, none⟩ = some (.int .i64 s.sends) ∧ w'.cell? ⟨sb, 10, none⟩ = some (.int .i64 s.arranged) ∧ w'.cell? ⟨sb, 11, none⟩ = some (.int .i64 s.due) ∧ w'.cell? ⟨sb, 12, none⟩ = some (.bool s.mapped) ∧ w'.cell? ⟨sb, 13, none⟩ = some (.int .i64 s.made) ∧ w'.cell? ⟨sb, 14, none⟩ = some (.int .i64 s.passed)) (first | with_reducible exact HZ.out | go_keep) (first | fail)
  go_wp2
  have z := put13_heap HB.out (.int .i64 s.safe) (.int .i64 s.tooLong) (.int .i64 s.tests) (.int .i64 s.timeout) (.int .i64 s.retries) (.int .u8 s.phase) (.int .u32 s.nonce) (.int .i64 s.sends) (.int .i64 s.arranged) (.int .i64 s.due) (.bool s.mapped) (.int .i64 s.made) (.int .i64 s.passed)
  have m := put13_mod HM.out (N := N) (Or.inr (by rw [HN.out]; exact Nat.le_refl _)) (.int .i64 s.safe) (.int .i64 s.tooLong) (.int .i64 s.tests) (.int .i64 s.timeout) (.int .i64 s.retries) (.int .u8 s.phase) (.int .u32 s.nonce) (.int .i64 s.sends) (.int .i64 s.arranged) (.int .i64 s.due) (.bool s.mapped) (.int .i64 s.made) (.int .i64 s.passed)
  unfold put13 at z m
  clear b0 b1 b2 b3 b4 b5 b6 b7 b8 b9 b10 b11 b12 c0 c1 c2 c3 c4 c7 c8 c9 c10 c11 c12 c13 c14 fz HB HZ
  generalize World.setCell _ ⟨N, 12, none⟩ (.int .i64 s.passed) = W0 at z m ⊢
  replace m := m.drew
  replace z : W0.drew.heap[N]? = _ := z
  generalize W0.drew = W at z m ⊢
  have k0 : W.cell? ⟨N, 0, none⟩ = some (.int .i64 s.safe) := cell_of z rfl
  have k1 : W.cell? ⟨N, 1, none⟩ = some (.int .i64 s.tooLong) := cell_of z rfl
  have k2 : W.cell? ⟨N, 2, none⟩ = some (.int .i64 s.tests) := cell_of z rfl
  have k3 : W.cell? ⟨N, 3, none⟩ = some (.int .i64 s.timeout) := cell_of z rfl
  have k4 : W.cell? ⟨N, 4, none⟩ = some (.int .i64 s.retries) := cell_of z rfl
  have k5 : W.cell? ⟨N, 5, none⟩ = some (.int .u8 s.phase) := cell_of z rfl
  have k6 : W.cell? ⟨N, 6, none⟩ = some (.int .u32 s.nonce) := cell_of z rfl
  have k7 : W.cell? ⟨N, 7, none⟩ = some (.int .i64 s.sends) := cell_of z rfl
  have k8 : W.cell? ⟨N, 8, none⟩ = some (.int .i64 s.arranged) := cell_of z rfl
  have k9 : W.cell? ⟨N, 9, none⟩ = some (.int .i64 s.due) := cell_of z rfl
  have k10 : W.cell? ⟨N, 10, none⟩ = some (.bool s.mapped) := cell_of z rfl
  have k11 : W.cell? ⟨N, 11, none⟩ = some (.int .i64 s.made) := cell_of z rfl
  have k12 : W.cell? ⟨N, 12, none⟩ = some (.int .i64 s.passed) := cell_of z rfl
  exact bodyPost_ret (v := .agg s.plain) (by simp [results, Try.results20, go_sem, Sr.plain, k0, k1, k2, k3, k4, k5, k6, k7, k8, k9, k10, k11, k12]) rfl ⟨rfl, m⟩

end Go.Proofs.Qxb6616897a
