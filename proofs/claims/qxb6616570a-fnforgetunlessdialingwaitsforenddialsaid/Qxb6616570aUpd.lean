/- (*record).view and (*Entry).update. -/
import Derived.Test.Qxb6616570aForgetT
set_option linter.unusedSimpArgs false
set_option linter.unusedVariables false
namespace Go.Proofs.Qxb6616570a
open Go.RowKit
open Go.MuLone

attribute [local go_sem] eq37 ne37 ne37n eq60 Pl_drew Pl_alloc Pl_setCell

theorem Rep.dialed {L : Lay} {R : Raw} {w : World} (h : Rep L R w) (h0 : -1 ≤ R.dialer) (h1 : R.dialer < L.n) :
    ∃ p, L.ep R.dialer = .pointer p ∧ (decide (p ≠ none) = decide (0 ≤ R.dialer)) := by
  by_cases hn : R.dialer < 0
  · exact ⟨none, ep_neg L hn, by simp; omega⟩
  · obtain ⟨d, hd⟩ := Int.eq_ofNat_of_zero_le (by omega : 0 ≤ R.dialer)
    exact ⟨_, by rw [hd, ep_nat], by simp [hd]⟩

def put6 (w : World) (N : Nat) (v0 v1 v2 v3 v4 v5 : Value) : World := (((((w.setCell ⟨N, 0, none⟩ v0).setCell ⟨N, 1, none⟩ v1).setCell ⟨N, 2, none⟩ v2).setCell ⟨N, 3, none⟩ v3).setCell ⟨N, 4, none⟩ v4).setCell ⟨N, 5, none⟩ v5
theorem put6_heap {w : World} {N : Nat} {a0 a1 a2 a3 a4 a5 : Value} {t : TypeId} (hb : w.heap[N]? = some (.cells #[a0, a1, a2, a3, a4, a5] t)) (v0 v1 v2 v3 v4 v5 : Value) :
    (put6 w N v0 v1 v2 v3 v4 v5).heap[N]? = some (.cells #[v0, v1, v2, v3, v4, v5] t) := by
  unfold put6
  rw [heap_set_same (heap_set_same (heap_set_same (heap_set_same (heap_set_same (heap_set_same hb _) _) _) _) _) _]
  simp
theorem Mod.put6 {M : Nat → Prop} {a w : World} (h : Mod M a w) {N : Nat} (hp : M N ∨ a.heap.size ≤ N) (v0 v1 v2 v3 v4 v5 : Value) : Mod M a (put6 w N v0 v1 v2 v3 v4 v5) :=
  (((((h.setCell (p := ⟨N, 0, none⟩) hp v0).setCell (p := ⟨N, 1, none⟩) hp v1).setCell (p := ⟨N, 2, none⟩) hp v2).setCell (p := ⟨N, 3, none⟩) hp v3).setCell (p := ⟨N, 4, none⟩) hp v4).setCell (p := ⟨N, 5, none⟩) hp v5

set_option maxHeartbeats 1000000 in
theorem view_nil {L : Lay} {R : Raw} {w : World} (h : Rep L R w) (hn : R.dialer < 0) :
    Calls Try.prog 65 #[.pointer (some ⟨L.r, 0, none⟩)] w fun e w' => e = .returned (.agg #[.int .i64 R.failures, .int .u64 0, .int .i64 0, .pointer none, .bool R.failing, .bool false]) ∧ Mod (fun _ => False) w w' := by
  have r1 := h.alloc (.cells #[.int .i64 0, .int .u64 0, .int .i64 0, .pointer none, .bool false, .bool false] 45)
  have hb := heap_alloc_new w (.cells #[.int .i64 0, .int .u64 0, .int .i64 0, .pointer none, .bool false, .bool false] 45)
  have m1 := (Mod.refl (fun _ => False) w).alloc (.cells #[.int .i64 0, .int .u64 0, .int .i64 0, .pointer none, .bool false, .bool false] 45)
  go_enter Try.func65, Try.ntmps65
  go_wp2_with fail
  have ne : L.r ≠ w.heap.size := by have := heap_lt h.hr; omega
  have HM : Hid (Mod (fun _ => False) w (w.alloc (.cells #[.int .i64 0, .int .u64 0, .int .i64 0, .pointer none, .bool false, .bool false] 45))) := m1
  have hN : ∃ N, N = w.heap.size := ⟨_, rfl⟩
  obtain ⟨N, hN⟩ := hN
  have HN : Hid (N = w.heap.size) := hN
  rw [← hN] at hb ne ⊢
  clear m1 hN h
  generalize w.alloc (.cells #[.int .i64 0, .int .u64 0, .int .i64 0, .pointer none, .bool false, .bool false] 45) = w1 at r1 hb HM ⊢
  have c0 := r1.cr0
  have c1 := r1.cr1
  have c2 := r1.cr2
  have c3 := r1.cr3
  have c4 := r1.cr4
  have c5 := r1.cr5
  have b0 := cell_of hb (k := 0) rfl
  have b1 := cell_of hb (k := 1) rfl
  have b2 := cell_of hb (k := 2) rfl
  have b3 := cell_of hb (k := 3) rfl
  have b4 := cell_of hb (k := 4) rfl
  have b5 := cell_of hb (k := 5) rfl
  have fb := frozen_of hb
  rw [ep_neg L hn] at c5
  have HB : Hid _ := hb
  clear r1 hb hn
  go_region
  go_wp2
  have z := put6_heap HB.out (.int .i64 R.failures) (.int .u64 0) (.int .i64 0) (.pointer none) (.bool R.failing) (.bool false)
  have m := HM.out.put6 (N := N) (Or.inr (by rw [HN.out]; exact Nat.le_refl _)) (.int .i64 R.failures) (.int .u64 0) (.int .i64 0) (.pointer none) (.bool R.failing) (.bool false)
  unfold put6 at z m
  clear b0 b1 b2 b3 b4 b5 c0 c1 c2 c3 c4 c5 fb HB
  generalize World.setCell _ _ (.bool false) = W at z m ⊢
  have k0 : W.drew.cell? ⟨N, 0, none⟩ = some (.int .i64 R.failures) := cell_of (w := W.drew) z rfl
  have k1 : W.drew.cell? ⟨N, 1, none⟩ = some (.int .u64 0) := cell_of (w := W.drew) z rfl
  have k2 : W.drew.cell? ⟨N, 2, none⟩ = some (.int .i64 0) := cell_of (w := W.drew) z rfl
  have k3 : W.drew.cell? ⟨N, 3, none⟩ = some (.pointer none) := cell_of (w := W.drew) z rfl
  have k4 : W.drew.cell? ⟨N, 4, none⟩ = some (.bool R.failing) := cell_of (w := W.drew) z rfl
  have k5 : W.drew.cell? ⟨N, 5, none⟩ = some (.bool false) := cell_of (w := W.drew) z rfl
  exact bodyPost_ret (v := .agg #[.int .i64 R.failures, .int .u64 0, .int .i64 0, .pointer none, .bool R.failing, .bool false]) (by simp [results, Try.results65, go_sem, k0, k1, k2, k3, k4, k5]) rfl ⟨rfl, m.drew⟩

set_option maxHeartbeats 1000000 in
theorem view_some {L : Lay} {R : Raw} {w : World} (h : Rep L R w) {d : Nat} (hd : R.dialer = (d : Int)) :
    Calls Try.prog 65 #[.pointer (some ⟨L.r, 0, none⟩)] w fun e w' => e = .returned (.agg #[.int .i64 R.failures, .int .u64 0, .int .i64 0, .pointer none, .bool R.failing, .bool true]) ∧ Mod (fun _ => False) w w' := by
  have r1 := h.alloc (.cells #[.int .i64 0, .int .u64 0, .int .i64 0, .pointer none, .bool false, .bool false] 45)
  have hb := heap_alloc_new w (.cells #[.int .i64 0, .int .u64 0, .int .i64 0, .pointer none, .bool false, .bool false] 45)
  have m1 := (Mod.refl (fun _ => False) w).alloc (.cells #[.int .i64 0, .int .u64 0, .int .i64 0, .pointer none, .bool false, .bool false] 45)
  go_enter Try.func65, Try.ntmps65
  go_wp2_with fail
  have ne : L.r ≠ w.heap.size := by have := heap_lt h.hr; omega
  have HM : Hid (Mod (fun _ => False) w (w.alloc (.cells #[.int .i64 0, .int .u64 0, .int .i64 0, .pointer none, .bool false, .bool false] 45))) := m1
  have hN : ∃ N, N = w.heap.size := ⟨_, rfl⟩
  obtain ⟨N, hN⟩ := hN
  have HN : Hid (N = w.heap.size) := hN
  rw [← hN] at hb ne ⊢
  clear m1 hN h
  generalize w.alloc (.cells #[.int .i64 0, .int .u64 0, .int .i64 0, .pointer none, .bool false, .bool false] 45) = w1 at r1 hb HM ⊢
  have c0 := r1.cr0
  have c1 := r1.cr1
  have c2 := r1.cr2
  have c3 := r1.cr3
  have c4 := r1.cr4
  have c5 := r1.cr5
  have b0 := cell_of hb (k := 0) rfl
  have b1 := cell_of hb (k := 1) rfl
  have b2 := cell_of hb (k := 2) rfl
  have b3 := cell_of hb (k := 3) rfl
  have b4 := cell_of hb (k := 4) rfl
  have b5 := cell_of hb (k := 5) rfl
  have fb := frozen_of hb
  rw [hd, ep_nat] at c5
  have HB : Hid _ := hb
  clear r1 hb hd
  go_region
  go_wp2
  have z := put6_heap HB.out (.int .i64 R.failures) (.int .u64 0) (.int .i64 0) (.pointer none) (.bool R.failing) (.bool true)
  have m := HM.out.put6 (N := N) (Or.inr (by rw [HN.out]; exact Nat.le_refl _)) (.int .i64 R.failures) (.int .u64 0) (.int .i64 0) (.pointer none) (.bool R.failing) (.bool true)
  unfold put6 at z m
  clear b0 b1 b2 b3 b4 b5 c0 c1 c2 c3 c4 c5 fb HB
  generalize World.setCell _ _ (.bool true) = W at z m ⊢
  have k0 : W.drew.cell? ⟨N, 0, none⟩ = some (.int .i64 R.failures) := cell_of (w := W.drew) z rfl
  have k1 : W.drew.cell? ⟨N, 1, none⟩ = some (.int .u64 0) := cell_of (w := W.drew) z rfl
  have k2 : W.drew.cell? ⟨N, 2, none⟩ = some (.int .i64 0) := cell_of (w := W.drew) z rfl
  have k3 : W.drew.cell? ⟨N, 3, none⟩ = some (.pointer none) := cell_of (w := W.drew) z rfl
  have k4 : W.drew.cell? ⟨N, 4, none⟩ = some (.bool R.failing) := cell_of (w := W.drew) z rfl
  have k5 : W.drew.cell? ⟨N, 5, none⟩ = some (.bool true) := cell_of (w := W.drew) z rfl
  exact bodyPost_ret (v := .agg #[.int .i64 R.failures, .int .u64 0, .int .i64 0, .pointer none, .bool R.failing, .bool true]) (by simp [results, Try.results65, go_sem, k0, k1, k2, k3, k4, k5]) rfl ⟨rfl, m.drew⟩

theorem view_any {L : Lay} {R : Raw} {w : World} (h : Rep L R w) :
    Calls Try.prog 65 #[.pointer (some ⟨L.r, 0, none⟩)] w fun e w' => e = .returned (.agg #[.int .i64 R.failures, .int .u64 0, .int .i64 0, .pointer none, .bool R.failing, .bool (decide (0 ≤ R.dialer))]) ∧ Mod (fun _ => False) w w' := by
  by_cases hn : R.dialer < 0
  · rw [show decide (0 ≤ R.dialer) = false by simp; omega]; exact view_nil h hn
  · obtain ⟨d, hd⟩ := Int.eq_ofNat_of_zero_le (by omega : 0 ≤ R.dialer)
    rw [show decide (0 ≤ R.dialer) = true by simp; omega]; exact view_some h hd

end Go.Proofs.Qxb6616570a
