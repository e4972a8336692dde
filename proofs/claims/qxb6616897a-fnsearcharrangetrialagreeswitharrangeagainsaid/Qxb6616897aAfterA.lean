/- zzAfterTrial, case a. -/
import Derived.Test.Qxb6616897aFlds
set_option linter.unusedSimpArgs false
set_option linter.unusedVariables false
namespace Go.Proofs.Qxb6616897a
open Go.RowKit

set_option maxRecDepth 100000 in
set_option maxHeartbeats 4000000 in
theorem after_a0x (safe tooLong tests timeout retries nonce sends arranged due made passed fresh now : Int) (w : World) (s0 : 0 ≤ safe) (s1 : safe ≤ 9223372036) (p0 : 0 ≤ passed) (p1 : passed ≤ 9223372036854775807) (t0 : 0 ≤ timeout) (t1 : timeout ≤ 9223372036854775807) (n0 : 0 ≤ now) (n1 : now ≤ 9223372036854775807)   (hd : timeout ≤ 9223372036854775807 - now) :
    Calls Try.prog 21 #[.agg #[.int .i64 safe, .int .i64 tooLong, .int .i64 tests, .int .i64 timeout, .int .i64 retries, .int .u32 fresh, .int .u8 1, .int .u32 nonce, .int .i64 sends, .int .i64 arranged, .int .i64 due, .bool false, .int .i64 made, .int .i64 passed], .int .i64 now] w fun e w' => e = .returned (.agg #[.int .i64 safe, .int .i64 tooLong, .int .i64 tests, .int .i64 timeout, .int .i64 retries, .int .u8 0, .int .u32 fresh, .int .i64 1, .int .i64 now, .int .i64 (now + timeout), .bool false, .int .i64 now, .int .i64 now]) ∧ Mod (fun _ => False) w w' := by
  go_enter Try.func21, Try.ntmps21
  go_wp2_with fail
  have ha := heap_old (heap_new w (.cells #[.int .i64 safe, .int .i64 tooLong, .int .i64 tests, .int .i64 timeout, .int .i64 retries, .int .u32 fresh, .int .u8 1, .int .u32 nonce, .int .i64 sends, .int .i64 arranged, .int .i64 due, .bool false, .int .i64 made, .int .i64 passed] 43)) (.cells #[.int .i64 0, .int .i64 0, .int .i64 0, .int .i64 0, .int .i64 0, .int .u8 0, .int .u32 0, .int .i64 0, .int .i64 0, .int .i64 0, .bool false, .int .i64 0, .int .i64 0] 48)
  have hz := heap_new (w.alloc (.cells #[.int .i64 safe, .int .i64 tooLong, .int .i64 tests, .int .i64 timeout, .int .i64 retries, .int .u32 fresh, .int .u8 1, .int .u32 nonce, .int .i64 sends, .int .i64 arranged, .int .i64 due, .bool false, .int .i64 made, .int .i64 passed] 43)) (.cells #[.int .i64 0, .int .i64 0, .int .i64 0, .int .i64 0, .int .i64 0, .int .u8 0, .int .u32 0, .int .i64 0, .int .i64 0, .int .i64 0, .bool false, .int .i64 0, .int .i64 0] 48)
  rw [World.size_alloc] at hz
  have ms := ((Mod.refl (fun _ => False) w).alloc (.cells #[.int .i64 safe, .int .i64 tooLong, .int .i64 tests, .int .i64 timeout, .int .i64 retries, .int .u32 fresh, .int .u8 1, .int .u32 nonce, .int .i64 sends, .int .i64 arranged, .int .i64 due, .bool false, .int .i64 made, .int .i64 passed] 43)).alloc (.cells #[.int .i64 0, .int .i64 0, .int .i64 0, .int .i64 0, .int .i64 0, .int .u8 0, .int .u32 0, .int .i64 0, .int .i64 0, .int .i64 0, .bool false, .int .i64 0, .int .i64 0] 48)
  generalize hN : w.heap.size + 1 = N at hz ⊢
  have HN : Hid (w.heap.size + 1 = N) := hN
  clear hN
  generalize ((w.alloc (.cells #[.int .i64 safe, .int .i64 tooLong, .int .i64 tests, .int .i64 timeout, .int .i64 retries, .int .u32 fresh, .int .u8 1, .int .u32 nonce, .int .i64 sends, .int .i64 arranged, .int .i64 due, .bool false, .int .i64 made, .int .i64 passed] 43)).alloc (.cells #[.int .i64 0, .int .i64 0, .int .i64 0, .int .i64 0, .int .i64 0, .int .u8 0, .int .u32 0, .int .i64 0, .int .i64 0, .int .i64 0, .bool false, .int .i64 0, .int .i64 0] 48)) = w1 at ha hz ms ⊢
  refine (searchOf_any ⟨safe, tooLong, tests, timeout, retries, 1, nonce, sends, arranged, due, false, made, passed⟩ fresh w1).mono ?_
  unfold Sr.plain
  rintro e w2 ⟨rfl, m2⟩
  have HM : Hid (Mod (fun _ => False) w w2) := ms.trans m2
  have hb := m2.stays hz id
  have hc := m2.stays ha id
  have ab := cell_of hc (k := 5) rfl
  have b0 := cell_of hb (k := 0) rfl
  have b1 := cell_of hb (k := 1) rfl
  have b2 := cell_of hb (k := 2) rfl
  have b3 := cell_of hb (k := 3) rfl
  have b4 := cell_of hb (k := 4) rfl
  have b5 := cell_of hb (k := 5) rfl
  have b6 := cell_of hb (k := 6) rfl
  have b7 := cell_of hb (k := 7) rfl
  have b8 := cell_of hb (k := 8) rfl
  have b9 := cell_of hb (k := 9) rfl
  have b10 := cell_of hb (k := 10) rfl
  have b11 := cell_of hb (k := 11) rfl
  have b12 := cell_of hb (k := 12) rfl
  have fz := frozen_of hb
  have lt := heap_lt hb
  have ne : N ≠ w2.heap.size := by omega
  have lt2 := heap_lt hc
  have ne2 : w.heap.size ≠ w2.heap.size := by omega
  have HB : Hid (w2.heap[N]? = some (.cells #[.int .i64 0, .int .i64 0, .int .i64 0, .int .i64 0, .int .i64 0, .int .u8 0, .int .u32 0, .int .i64 0, .int .i64 0, .int .i64 0, .bool false, .int .i64 0, .int .i64 0] 48)) := hb
  clear ha hz ms m2 hb hc
  dsimp only
  go_wp2_with fail
  have z := put13_heap HB.out (.int .i64 safe) (.int .i64 tooLong) (.int .i64 tests) (.int .i64 timeout) (.int .i64 retries) (.int .u8 0) (.int .u32 fresh) (.int .i64 1) (.int .i64 now) (.int .i64 (now + timeout)) (.bool false) (.int .i64 now) (.int .i64 now)
  have m := put13_mod HM.out (N := N) (Or.inr (by have := HN.out; omega)) (.int .i64 safe) (.int .i64 tooLong) (.int .i64 tests) (.int .i64 timeout) (.int .i64 retries) (.int .u8 0) (.int .u32 fresh) (.int .i64 1) (.int .i64 now) (.int .i64 (now + timeout)) (.bool false) (.int .i64 now) (.int .i64 now)
  unfold put13 at z m
  clear b0 b1 b2 b3 b4 b5 b6 b7 b8 b9 b10 b11 b12 fz HB ab lt ne lt2 ne2
  generalize World.setCell _ ⟨N, 12, none⟩ (.int .i64 now) = W0 at z m ⊢
  have z7 := heap_old z (.cells #[.int .i64 safe, .int .i64 tooLong, .int .i64 tests, .int .i64 timeout, .int .i64 retries, .int .u8 0, .int .u32 fresh, .int .i64 1, .int .i64 now, .int .i64 (now + timeout), .bool false, .int .i64 now, .int .i64 now] 48)
  have m7 := m.alloc (.cells #[.int .i64 safe, .int .i64 tooLong, .int .i64 tests, .int .i64 timeout, .int .i64 retries, .int .u8 0, .int .u32 fresh, .int .i64 1, .int .i64 now, .int .i64 (now + timeout), .bool false, .int .i64 now, .int .i64 now] 48)
  generalize W0.alloc (.cells #[.int .i64 safe, .int .i64 tooLong, .int .i64 tests, .int .i64 timeout, .int .i64 retries, .int .u8 0, .int .u32 fresh, .int .i64 1, .int .i64 now, .int .i64 (now + timeout), .bool false, .int .i64 now, .int .i64 now] 48) = W at z7 m7 ⊢
  have k0 := cell_of z7 (k := 0) rfl
  have k1 := cell_of z7 (k := 1) rfl
  have k2 := cell_of z7 (k := 2) rfl
  have k3 := cell_of z7 (k := 3) rfl
  have k4 := cell_of z7 (k := 4) rfl
  have k5 := cell_of z7 (k := 5) rfl
  have k6 := cell_of z7 (k := 6) rfl
  have k7 := cell_of z7 (k := 7) rfl
  have k8 := cell_of z7 (k := 8) rfl
  have k9 := cell_of z7 (k := 9) rfl
  have k10 := cell_of z7 (k := 10) rfl
  have k11 := cell_of z7 (k := 11) rfl
  have k12 := cell_of z7 (k := 12) rfl
  exact bodyPost_ret (v := .agg #[.int .i64 safe, .int .i64 tooLong, .int .i64 tests, .int .i64 timeout, .int .i64 retries, .int .u8 0, .int .u32 fresh, .int .i64 1, .int .i64 now, .int .i64 (now + timeout), .bool false, .int .i64 now, .int .i64 now]) (by simp [results, Try.results21, go_sem, k0, k1, k2, k3, k4, k5, k6, k7, k8, k9, k10, k11, k12]) rfl ⟨rfl, m7⟩

set_option maxRecDepth 100000 in
set_option maxHeartbeats 4000000 in
theorem after_a0y (safe tooLong tests timeout retries nonce sends arranged due made passed fresh now : Int) (w : World) (s0 : 0 ≤ safe) (s1 : safe ≤ 9223372036) (p0 : 0 ≤ passed) (p1 : passed ≤ 9223372036854775807) (t0 : 0 ≤ timeout) (t1 : timeout ≤ 9223372036854775807) (n0 : 0 ≤ now) (n1 : now ≤ 9223372036854775807)   (hd : 9223372036854775807 - now < timeout) :
    Calls Try.prog 21 #[.agg #[.int .i64 safe, .int .i64 tooLong, .int .i64 tests, .int .i64 timeout, .int .i64 retries, .int .u32 fresh, .int .u8 1, .int .u32 nonce, .int .i64 sends, .int .i64 arranged, .int .i64 due, .bool false, .int .i64 made, .int .i64 passed], .int .i64 now] w fun e w' => e = .returned (.agg #[.int .i64 safe, .int .i64 tooLong, .int .i64 tests, .int .i64 timeout, .int .i64 retries, .int .u8 0, .int .u32 fresh, .int .i64 1, .int .i64 now, .int .i64 9223372036854775807, .bool false, .int .i64 now, .int .i64 now]) ∧ Mod (fun _ => False) w w' := by
  go_enter Try.func21, Try.ntmps21
  go_wp2_with fail
  have ha := heap_old (heap_new w (.cells #[.int .i64 safe, .int .i64 tooLong, .int .i64 tests, .int .i64 timeout, .int .i64 retries, .int .u32 fresh, .int .u8 1, .int .u32 nonce, .int .i64 sends, .int .i64 arranged, .int .i64 due, .bool false, .int .i64 made, .int .i64 passed] 43)) (.cells #[.int .i64 0, .int .i64 0, .int .i64 0, .int .i64 0, .int .i64 0, .int .u8 0, .int .u32 0, .int .i64 0, .int .i64 0, .int .i64 0, .bool false, .int .i64 0, .int .i64 0] 48)
  have hz := heap_new (w.alloc (.cells #[.int .i64 safe, .int .i64 tooLong, .int .i64 tests, .int .i64 timeout, .int .i64 retries, .int .u32 fresh, .int .u8 1, .int .u32 nonce, .int .i64 sends, .int .i64 arranged, .int .i64 due, .bool false, .int .i64 made, .int .i64 passed] 43)) (.cells #[.int .i64 0, .int .i64 0, .int .i64 0, .int .i64 0, .int .i64 0, .int .u8 0, .int .u32 0, .int .i64 0, .int .i64 0, .int .i64 0, .bool false, .int .i64 0, .int .i64 0] 48)
  rw [World.size_alloc] at hz
  have ms := ((Mod.refl (fun _ => False) w).alloc (.cells #[.int .i64 safe, .int .i64 tooLong, .int .i64 tests, .int .i64 timeout, .int .i64 retries, .int .u32 fresh, .int .u8 1, .int .u32 nonce, .int .i64 sends, .int .i64 arranged, .int .i64 due, .bool false, .int .i64 made, .int .i64 passed] 43)).alloc (.cells #[.int .i64 0, .int .i64 0, .int .i64 0, .int .i64 0, .int .i64 0, .int .u8 0, .int .u32 0, .int .i64 0, .int .i64 0, .int .i64 0, .bool false, .int .i64 0, .int .i64 0] 48)
  generalize hN : w.heap.size + 1 = N at hz ⊢
  have HN : Hid (w.heap.size + 1 = N) := hN
  clear hN
  generalize ((w.alloc (.cells #[.int .i64 safe, .int .i64 tooLong, .int .i64 tests, .int .i64 timeout, .int .i64 retries, .int .u32 fresh, .int .u8 1, .int .u32 nonce, .int .i64 sends, .int .i64 arranged, .int .i64 due, .bool false, .int .i64 made, .int .i64 passed] 43)).alloc (.cells #[.int .i64 0, .int .i64 0, .int .i64 0, .int .i64 0, .int .i64 0, .int .u8 0, .int .u32 0, .int .i64 0, .int .i64 0, .int .i64 0, .bool false, .int .i64 0, .int .i64 0] 48)) = w1 at ha hz ms ⊢
  refine (searchOf_any ⟨safe, tooLong, tests, timeout, retries, 1, nonce, sends, arranged, due, false, made, passed⟩ fresh w1).mono ?_
  unfold Sr.plain
  rintro e w2 ⟨rfl, m2⟩
  have HM : Hid (Mod (fun _ => False) w w2) := ms.trans m2
  have hb := m2.stays hz id
  have hc := m2.stays ha id
  have ab := cell_of hc (k := 5) rfl
  have b0 := cell_of hb (k := 0) rfl
  have b1 := cell_of hb (k := 1) rfl
  have b2 := cell_of hb (k := 2) rfl
  have b3 := cell_of hb (k := 3) rfl
  have b4 := cell_of hb (k := 4) rfl
  have b5 := cell_of hb (k := 5) rfl
  have b6 := cell_of hb (k := 6) rfl
  have b7 := cell_of hb (k := 7) rfl
  have b8 := cell_of hb (k := 8) rfl
  have b9 := cell_of hb (k := 9) rfl
  have b10 := cell_of hb (k := 10) rfl
  have b11 := cell_of hb (k := 11) rfl
  have b12 := cell_of hb (k := 12) rfl
  have fz := frozen_of hb
  have lt := heap_lt hb
  have ne : N ≠ w2.heap.size := by omega
  have lt2 := heap_lt hc
  have ne2 : w.heap.size ≠ w2.heap.size := by omega
  have HB : Hid (w2.heap[N]? = some (.cells #[.int .i64 0, .int .i64 0, .int .i64 0, .int .i64 0, .int .i64 0, .int .u8 0, .int .u32 0, .int .i64 0, .int .i64 0, .int .i64 0, .bool false, .int .i64 0, .int .i64 0] 48)) := hb
  clear ha hz ms m2 hb hc
  dsimp only
  go_wp2_with fail
  have z := put13_heap HB.out (.int .i64 safe) (.int .i64 tooLong) (.int .i64 tests) (.int .i64 timeout) (.int .i64 retries) (.int .u8 0) (.int .u32 fresh) (.int .i64 1) (.int .i64 now) (.int .i64 9223372036854775807) (.bool false) (.int .i64 now) (.int .i64 now)
  have m := put13_mod HM.out (N := N) (Or.inr (by have := HN.out; omega)) (.int .i64 safe) (.int .i64 tooLong) (.int .i64 tests) (.int .i64 timeout) (.int .i64 retries) (.int .u8 0) (.int .u32 fresh) (.int .i64 1) (.int .i64 now) (.int .i64 9223372036854775807) (.bool false) (.int .i64 now) (.int .i64 now)
  unfold put13 at z m
  clear b0 b1 b2 b3 b4 b5 b6 b7 b8 b9 b10 b11 b12 fz HB ab lt ne lt2 ne2
  generalize World.setCell _ ⟨N, 12, none⟩ (.int .i64 now) = W0 at z m ⊢
  have z7 := heap_old z (.cells #[.int .i64 safe, .int .i64 tooLong, .int .i64 tests, .int .i64 timeout, .int .i64 retries, .int .u8 0, .int .u32 fresh, .int .i64 1, .int .i64 now, .int .i64 9223372036854775807, .bool false, .int .i64 now, .int .i64 now] 48)
  have m7 := m.alloc (.cells #[.int .i64 safe, .int .i64 tooLong, .int .i64 tests, .int .i64 timeout, .int .i64 retries, .int .u8 0, .int .u32 fresh, .int .i64 1, .int .i64 now, .int .i64 9223372036854775807, .bool false, .int .i64 now, .int .i64 now] 48)
  generalize W0.alloc (.cells #[.int .i64 safe, .int .i64 tooLong, .int .i64 tests, .int .i64 timeout, .int .i64 retries, .int .u8 0, .int .u32 fresh, .int .i64 1, .int .i64 now, .int .i64 9223372036854775807, .bool false, .int .i64 now, .int .i64 now] 48) = W at z7 m7 ⊢
  have k0 := cell_of z7 (k := 0) rfl
  have k1 := cell_of z7 (k := 1) rfl
  have k2 := cell_of z7 (k := 2) rfl
  have k3 := cell_of z7 (k := 3) rfl
  have k4 := cell_of z7 (k := 4) rfl
  have k5 := cell_of z7 (k := 5) rfl
  have k6 := cell_of z7 (k := 6) rfl
  have k7 := cell_of z7 (k := 7) rfl
  have k8 := cell_of z7 (k := 8) rfl
  have k9 := cell_of z7 (k := 9) rfl
  have k10 := cell_of z7 (k := 10) rfl
  have k11 := cell_of z7 (k := 11) rfl
  have k12 := cell_of z7 (k := 12) rfl
  exact bodyPost_ret (v := .agg #[.int .i64 safe, .int .i64 tooLong, .int .i64 tests, .int .i64 timeout, .int .i64 retries, .int .u8 0, .int .u32 fresh, .int .i64 1, .int .i64 now, .int .i64 9223372036854775807, .bool false, .int .i64 now, .int .i64 now]) (by simp [results, Try.results21, go_sem, k0, k1, k2, k3, k4, k5, k6, k7, k8, k9, k10, k11, k12]) rfl ⟨rfl, m7⟩

set_option maxRecDepth 100000 in
set_option maxHeartbeats 4000000 in
theorem after_a1x (safe tooLong tests timeout retries nonce sends arranged due made passed fresh now : Int) (w : World) (s0 : 0 ≤ safe) (s1 : safe ≤ 9223372036) (p0 : 0 ≤ passed) (p1 : passed ≤ 9223372036854775807) (t0 : 0 ≤ timeout) (t1 : timeout ≤ 9223372036854775807) (n0 : 0 ≤ now) (n1 : now ≤ 9223372036854775807)  (hl : now - passed ≤ 3500000000) (hd : timeout ≤ 9223372036854775807 - now) :
    Calls Try.prog 21 #[.agg #[.int .i64 safe, .int .i64 tooLong, .int .i64 tests, .int .i64 timeout, .int .i64 retries, .int .u32 fresh, .int .u8 1, .int .u32 nonce, .int .i64 sends, .int .i64 arranged, .int .i64 due, .bool true, .int .i64 made, .int .i64 passed], .int .i64 now] w fun e w' => e = .returned (.agg #[.int .i64 safe, .int .i64 tooLong, .int .i64 tests, .int .i64 timeout, .int .i64 retries, .int .u8 0, .int .u32 fresh, .int .i64 1, .int .i64 now, .int .i64 (now + timeout), .bool true, .int .i64 made, .int .i64 now]) ∧ Mod (fun _ => False) w w' := by
  go_enter Try.func21, Try.ntmps21
  go_wp2_with fail
  have ha := heap_old (heap_new w (.cells #[.int .i64 safe, .int .i64 tooLong, .int .i64 tests, .int .i64 timeout, .int .i64 retries, .int .u32 fresh, .int .u8 1, .int .u32 nonce, .int .i64 sends, .int .i64 arranged, .int .i64 due, .bool true, .int .i64 made, .int .i64 passed] 43)) (.cells #[.int .i64 0, .int .i64 0, .int .i64 0, .int .i64 0, .int .i64 0, .int .u8 0, .int .u32 0, .int .i64 0, .int .i64 0, .int .i64 0, .bool false, .int .i64 0, .int .i64 0] 48)
  have hz := heap_new (w.alloc (.cells #[.int .i64 safe, .int .i64 tooLong, .int .i64 tests, .int .i64 timeout, .int .i64 retries, .int .u32 fresh, .int .u8 1, .int .u32 nonce, .int .i64 sends, .int .i64 arranged, .int .i64 due, .bool true, .int .i64 made, .int .i64 passed] 43)) (.cells #[.int .i64 0, .int .i64 0, .int .i64 0, .int .i64 0, .int .i64 0, .int .u8 0, .int .u32 0, .int .i64 0, .int .i64 0, .int .i64 0, .bool false, .int .i64 0, .int .i64 0] 48)
  rw [World.size_alloc] at hz
  have ms := ((Mod.refl (fun _ => False) w).alloc (.cells #[.int .i64 safe, .int .i64 tooLong, .int .i64 tests, .int .i64 timeout, .int .i64 retries, .int .u32 fresh, .int .u8 1, .int .u32 nonce, .int .i64 sends, .int .i64 arranged, .int .i64 due, .bool true, .int .i64 made, .int .i64 passed] 43)).alloc (.cells #[.int .i64 0, .int .i64 0, .int .i64 0, .int .i64 0, .int .i64 0, .int .u8 0, .int .u32 0, .int .i64 0, .int .i64 0, .int .i64 0, .bool false, .int .i64 0, .int .i64 0] 48)
  generalize hN : w.heap.size + 1 = N at hz ⊢
  have HN : Hid (w.heap.size + 1 = N) := hN
  clear hN
  generalize ((w.alloc (.cells #[.int .i64 safe, .int .i64 tooLong, .int .i64 tests, .int .i64 timeout, .int .i64 retries, .int .u32 fresh, .int .u8 1, .int .u32 nonce, .int .i64 sends, .int .i64 arranged, .int .i64 due, .bool true, .int .i64 made, .int .i64 passed] 43)).alloc (.cells #[.int .i64 0, .int .i64 0, .int .i64 0, .int .i64 0, .int .i64 0, .int .u8 0, .int .u32 0, .int .i64 0, .int .i64 0, .int .i64 0, .bool false, .int .i64 0, .int .i64 0] 48)) = w1 at ha hz ms ⊢
  refine (searchOf_any ⟨safe, tooLong, tests, timeout, retries, 1, nonce, sends, arranged, due, true, made, passed⟩ fresh w1).mono ?_
  unfold Sr.plain
  rintro e w2 ⟨rfl, m2⟩
  have HM : Hid (Mod (fun _ => False) w w2) := ms.trans m2
  have hb := m2.stays hz id
  have hc := m2.stays ha id
  have ab := cell_of hc (k := 5) rfl
  have b0 := cell_of hb (k := 0) rfl
  have b1 := cell_of hb (k := 1) rfl
  have b2 := cell_of hb (k := 2) rfl
  have b3 := cell_of hb (k := 3) rfl
  have b4 := cell_of hb (k := 4) rfl
  have b5 := cell_of hb (k := 5) rfl
  have b6 := cell_of hb (k := 6) rfl
  have b7 := cell_of hb (k := 7) rfl
  have b8 := cell_of hb (k := 8) rfl
  have b9 := cell_of hb (k := 9) rfl
  have b10 := cell_of hb (k := 10) rfl
  have b11 := cell_of hb (k := 11) rfl
  have b12 := cell_of hb (k := 12) rfl
  have fz := frozen_of hb
  have lt := heap_lt hb
  have ne : N ≠ w2.heap.size := by omega
  have lt2 := heap_lt hc
  have ne2 : w.heap.size ≠ w2.heap.size := by omega
  have HB : Hid (w2.heap[N]? = some (.cells #[.int .i64 0, .int .i64 0, .int .i64 0, .int .i64 0, .int .i64 0, .int .u8 0, .int .u32 0, .int .i64 0, .int .i64 0, .int .i64 0, .bool false, .int .i64 0, .int .i64 0] 48)) := hb
  clear ha hz ms m2 hb hc
  dsimp only
  go_wp2_with fail
  have z := put13_heap HB.out (.int .i64 safe) (.int .i64 tooLong) (.int .i64 tests) (.int .i64 timeout) (.int .i64 retries) (.int .u8 0) (.int .u32 fresh) (.int .i64 1) (.int .i64 now) (.int .i64 (now + timeout)) (.bool true) (.int .i64 made) (.int .i64 now)
  have m := put13_mod HM.out (N := N) (Or.inr (by have := HN.out; omega)) (.int .i64 safe) (.int .i64 tooLong) (.int .i64 tests) (.int .i64 timeout) (.int .i64 retries) (.int .u8 0) (.int .u32 fresh) (.int .i64 1) (.int .i64 now) (.int .i64 (now + timeout)) (.bool true) (.int .i64 made) (.int .i64 now)
  unfold put13 at z m
  clear b0 b1 b2 b3 b4 b5 b6 b7 b8 b9 b10 b11 b12 fz HB ab lt ne lt2 ne2
  generalize World.setCell _ ⟨N, 12, none⟩ (.int .i64 now) = W0 at z m ⊢
  have z7 := heap_old z (.cells #[.int .i64 safe, .int .i64 tooLong, .int .i64 tests, .int .i64 timeout, .int .i64 retries, .int .u8 0, .int .u32 fresh, .int .i64 1, .int .i64 now, .int .i64 (now + timeout), .bool true, .int .i64 made, .int .i64 now] 48)
  have m7 := m.alloc (.cells #[.int .i64 safe, .int .i64 tooLong, .int .i64 tests, .int .i64 timeout, .int .i64 retries, .int .u8 0, .int .u32 fresh, .int .i64 1, .int .i64 now, .int .i64 (now + timeout), .bool true, .int .i64 made, .int .i64 now] 48)
  generalize W0.alloc (.cells #[.int .i64 safe, .int .i64 tooLong, .int .i64 tests, .int .i64 timeout, .int .i64 retries, .int .u8 0, .int .u32 fresh, .int .i64 1, .int .i64 now, .int .i64 (now + timeout), .bool true, .int .i64 made, .int .i64 now] 48) = W at z7 m7 ⊢
  have k0 := cell_of z7 (k := 0) rfl
  have k1 := cell_of z7 (k := 1) rfl
  have k2 := cell_of z7 (k := 2) rfl
  have k3 := cell_of z7 (k := 3) rfl
  have k4 := cell_of z7 (k := 4) rfl
  have k5 := cell_of z7 (k := 5) rfl
  have k6 := cell_of z7 (k := 6) rfl
  have k7 := cell_of z7 (k := 7) rfl
  have k8 := cell_of z7 (k := 8) rfl
  have k9 := cell_of z7 (k := 9) rfl
  have k10 := cell_of z7 (k := 10) rfl
  have k11 := cell_of z7 (k := 11) rfl
  have k12 := cell_of z7 (k := 12) rfl
  exact bodyPost_ret (v := .agg #[.int .i64 safe, .int .i64 tooLong, .int .i64 tests, .int .i64 timeout, .int .i64 retries, .int .u8 0, .int .u32 fresh, .int .i64 1, .int .i64 now, .int .i64 (now + timeout), .bool true, .int .i64 made, .int .i64 now]) (by simp [results, Try.results21, go_sem, k0, k1, k2, k3, k4, k5, k6, k7, k8, k9, k10, k11, k12]) rfl ⟨rfl, m7⟩

set_option maxRecDepth 100000 in
set_option maxHeartbeats 4000000 in
theorem after_a1y (safe tooLong tests timeout retries nonce sends arranged due made passed fresh now : Int) (w : World) (s0 : 0 ≤ safe) (s1 : safe ≤ 9223372036) (p0 : 0 ≤ passed) (p1 : passed ≤ 9223372036854775807) (t0 : 0 ≤ timeout) (t1 : timeout ≤ 9223372036854775807) (n0 : 0 ≤ now) (n1 : now ≤ 9223372036854775807)  (hl : now - passed ≤ 3500000000) (hd : 9223372036854775807 - now < timeout) :
    Calls Try.prog 21 #[.agg #[.int .i64 safe, .int .i64 tooLong, .int .i64 tests, .int .i64 timeout, .int .i64 retries, .int .u32 fresh, .int .u8 1, .int .u32 nonce, .int .i64 sends, .int .i64 arranged, .int .i64 due, .bool true, .int .i64 made, .int .i64 passed], .int .i64 now] w fun e w' => e = .returned (.agg #[.int .i64 safe, .int .i64 tooLong, .int .i64 tests, .int .i64 timeout, .int .i64 retries, .int .u8 0, .int .u32 fresh, .int .i64 1, .int .i64 now, .int .i64 9223372036854775807, .bool true, .int .i64 made, .int .i64 now]) ∧ Mod (fun _ => False) w w' := by
  go_enter Try.func21, Try.ntmps21
  go_wp2_with fail
  have ha := heap_old (heap_new w (.cells #[.int .i64 safe, .int .i64 tooLong, .int .i64 tests, .int .i64 timeout, .int .i64 retries, .int .u32 fresh, .int .u8 1, .int .u32 nonce, .int .i64 sends, .int .i64 arranged, .int .i64 due, .bool true, .int .i64 made, .int .i64 passed] 43)) (.cells #[.int .i64 0, .int .i64 0, .int .i64 0, .int .i64 0, .int .i64 0, .int .u8 0, .int .u32 0, .int .i64 0, .int .i64 0, .int .i64 0, .bool false, .int .i64 0, .int .i64 0] 48)
  have hz := heap_new (w.alloc (.cells #[.int .i64 safe, .int .i64 tooLong, .int .i64 tests, .int .i64 timeout, .int .i64 retries, .int .u32 fresh, .int .u8 1, .int .u32 nonce, .int .i64 sends, .int .i64 arranged, .int .i64 due, .bool true, .int .i64 made, .int .i64 passed] 43)) (.cells #[.int .i64 0, .int .i64 0, .int .i64 0, .int .i64 0, .int .i64 0, .int .u8 0, .int .u32 0, .int .i64 0, .int .i64 0, .int .i64 0, .bool false, .int .i64 0, .int .i64 0] 48)
  rw [World.size_alloc] at hz
  have ms := ((Mod.refl (fun _ => False) w).alloc (.cells #[.int .i64 safe, .int .i64 tooLong, .int .i64 tests, .int .i64 timeout, .int .i64 retries, .int .u32 fresh, .int .u8 1, .int .u32 nonce, .int .i64 sends, .int .i64 arranged, .int .i64 due, .bool true, .int .i64 made, .int .i64 passed] 43)).alloc (.cells #[.int .i64 0, .int .i64 0, .int .i64 0, .int .i64 0, .int .i64 0, .int .u8 0, .int .u32 0, .int .i64 0, .int .i64 0, .int .i64 0, .bool false, .int .i64 0, .int .i64 0] 48)
  generalize hN : w.heap.size + 1 = N at hz ⊢
  have HN : Hid (w.heap.size + 1 = N) := hN
  clear hN
  generalize ((w.alloc (.cells #[.int .i64 safe, .int .i64 tooLong, .int .i64 tests, .int .i64 timeout, .int .i64 retries, .int .u32 fresh, .int .u8 1, .int .u32 nonce, .int .i64 sends, .int .i64 arranged, .int .i64 due, .bool true, .int .i64 made, .int .i64 passed] 43)).alloc (.cells #[.int .i64 0, .int .i64 0, .int .i64 0, .int .i64 0, .int .i64 0, .int .u8 0, .int .u32 0, .int .i64 0, .int .i64 0, .int .i64 0, .bool false, .int .i64 0, .int .i64 0] 48)) = w1 at ha hz ms ⊢
  refine (searchOf_any ⟨safe, tooLong, tests, timeout, retries, 1, nonce, sends, arranged, due, true, made, passed⟩ fresh w1).mono ?_
  unfold Sr.plain
  rintro e w2 ⟨rfl, m2⟩
  have HM : Hid (Mod (fun _ => False) w w2) := ms.trans m2
  have hb := m2.stays hz id
  have hc := m2.stays ha id
  have ab := cell_of hc (k := 5) rfl
  have b0 := cell_of hb (k := 0) rfl
  have b1 := cell_of hb (k := 1) rfl
  have b2 := cell_of hb (k := 2) rfl
  have b3 := cell_of hb (k := 3) rfl
  have b4 := cell_of hb (k := 4) rfl
  have b5 := cell_of hb (k := 5) rfl
  have b6 := cell_of hb (k := 6) rfl
  have b7 := cell_of hb (k := 7) rfl
  have b8 := cell_of hb (k := 8) rfl
  have b9 := cell_of hb (k := 9) rfl
  have b10 := cell_of hb (k := 10) rfl
  have b11 := cell_of hb (k := 11) rfl
  have b12 := cell_of hb (k := 12) rfl
  have fz := frozen_of hb
  have lt := heap_lt hb
  have ne : N ≠ w2.heap.size := by omega
  have lt2 := heap_lt hc
  have ne2 : w.heap.size ≠ w2.heap.size := by omega
  have HB : Hid (w2.heap[N]? = some (.cells #[.int .i64 0, .int .i64 0, .int .i64 0, .int .i64 0, .int .i64 0, .int .u8 0, .int .u32 0, .int .i64 0, .int .i64 0, .int .i64 0, .bool false, .int .i64 0, .int .i64 0] 48)) := hb
  clear ha hz ms m2 hb hc
  dsimp only
  go_wp2_with fail
  have z := put13_heap HB.out (.int .i64 safe) (.int .i64 tooLong) (.int .i64 tests) (.int .i64 timeout) (.int .i64 retries) (.int .u8 0) (.int .u32 fresh) (.int .i64 1) (.int .i64 now) (.int .i64 9223372036854775807) (.bool true) (.int .i64 made) (.int .i64 now)
  have m := put13_mod HM.out (N := N) (Or.inr (by have := HN.out; omega)) (.int .i64 safe) (.int .i64 tooLong) (.int .i64 tests) (.int .i64 timeout) (.int .i64 retries) (.int .u8 0) (.int .u32 fresh) (.int .i64 1) (.int .i64 now) (.int .i64 9223372036854775807) (.bool true) (.int .i64 made) (.int .i64 now)
  unfold put13 at z m
  clear b0 b1 b2 b3 b4 b5 b6 b7 b8 b9 b10 b11 b12 fz HB ab lt ne lt2 ne2
  generalize World.setCell _ ⟨N, 12, none⟩ (.int .i64 now) = W0 at z m ⊢
  have z7 := heap_old z (.cells #[.int .i64 safe, .int .i64 tooLong, .int .i64 tests, .int .i64 timeout, .int .i64 retries, .int .u8 0, .int .u32 fresh, .int .i64 1, .int .i64 now, .int .i64 9223372036854775807, .bool true, .int .i64 made, .int .i64 now] 48)
  have m7 := m.alloc (.cells #[.int .i64 safe, .int .i64 tooLong, .int .i64 tests, .int .i64 timeout, .int .i64 retries, .int .u8 0, .int .u32 fresh, .int .i64 1, .int .i64 now, .int .i64 9223372036854775807, .bool true, .int .i64 made, .int .i64 now] 48)
  generalize W0.alloc (.cells #[.int .i64 safe, .int .i64 tooLong, .int .i64 tests, .int .i64 timeout, .int .i64 retries, .int .u8 0, .int .u32 fresh, .int .i64 1, .int .i64 now, .int .i64 9223372036854775807, .bool true, .int .i64 made, .int .i64 now] 48) = W at z7 m7 ⊢
  have k0 := cell_of z7 (k := 0) rfl
  have k1 := cell_of z7 (k := 1) rfl
  have k2 := cell_of z7 (k := 2) rfl
  have k3 := cell_of z7 (k := 3) rfl
  have k4 := cell_of z7 (k := 4) rfl
  have k5 := cell_of z7 (k := 5) rfl
  have k6 := cell_of z7 (k := 6) rfl
  have k7 := cell_of z7 (k := 7) rfl
  have k8 := cell_of z7 (k := 8) rfl
  have k9 := cell_of z7 (k := 9) rfl
  have k10 := cell_of z7 (k := 10) rfl
  have k11 := cell_of z7 (k := 11) rfl
  have k12 := cell_of z7 (k := 12) rfl
  exact bodyPost_ret (v := .agg #[.int .i64 safe, .int .i64 tooLong, .int .i64 tests, .int .i64 timeout, .int .i64 retries, .int .u8 0, .int .u32 fresh, .int .i64 1, .int .i64 now, .int .i64 9223372036854775807, .bool true, .int .i64 made, .int .i64 now]) (by simp [results, Try.results21, go_sem, k0, k1, k2, k3, k4, k5, k6, k7, k8, k9, k10, k11, k12]) rfl ⟨rfl, m7⟩

set_option maxRecDepth 100000 in
set_option maxHeartbeats 4000000 in
theorem after_a2x (safe tooLong tests timeout retries nonce sends arranged due made passed fresh now : Int) (w : World) (s0 : 0 ≤ safe) (s1 : safe ≤ 9223372036) (p0 : 0 ≤ passed) (p1 : passed ≤ 9223372036854775807) (t0 : 0 ≤ timeout) (t1 : timeout ≤ 9223372036854775807) (n0 : 0 ≤ now) (n1 : now ≤ 9223372036854775807)  (hl : 3500000000 < now - passed) (hd : timeout ≤ 9223372036854775807 - now) :
    Calls Try.prog 21 #[.agg #[.int .i64 safe, .int .i64 tooLong, .int .i64 tests, .int .i64 timeout, .int .i64 retries, .int .u32 fresh, .int .u8 1, .int .u32 nonce, .int .i64 sends, .int .i64 arranged, .int .i64 due, .bool true, .int .i64 made, .int .i64 passed], .int .i64 now] w fun e w' => e = .returned (.agg #[.int .i64 safe, .int .i64 tooLong, .int .i64 tests, .int .i64 timeout, .int .i64 retries, .int .u8 0, .int .u32 fresh, .int .i64 1, .int .i64 now, .int .i64 (now + timeout), .bool false, .int .i64 now, .int .i64 now]) ∧ Mod (fun _ => False) w w' := by
  go_enter Try.func21, Try.ntmps21
  go_wp2_with fail
  simp only [show decide (now - passed ≤ 3500000000) = false by simp; omega]
  have ha := heap_old (heap_new w (.cells #[.int .i64 safe, .int .i64 tooLong, .int .i64 tests, .int .i64 timeout, .int .i64 retries, .int .u32 fresh, .int .u8 1, .int .u32 nonce, .int .i64 sends, .int .i64 arranged, .int .i64 due, .bool true, .int .i64 made, .int .i64 passed] 43)) (.cells #[.int .i64 0, .int .i64 0, .int .i64 0, .int .i64 0, .int .i64 0, .int .u8 0, .int .u32 0, .int .i64 0, .int .i64 0, .int .i64 0, .bool false, .int .i64 0, .int .i64 0] 48)
  have hz := heap_new (w.alloc (.cells #[.int .i64 safe, .int .i64 tooLong, .int .i64 tests, .int .i64 timeout, .int .i64 retries, .int .u32 fresh, .int .u8 1, .int .u32 nonce, .int .i64 sends, .int .i64 arranged, .int .i64 due, .bool true, .int .i64 made, .int .i64 passed] 43)) (.cells #[.int .i64 0, .int .i64 0, .int .i64 0, .int .i64 0, .int .i64 0, .int .u8 0, .int .u32 0, .int .i64 0, .int .i64 0, .int .i64 0, .bool false, .int .i64 0, .int .i64 0] 48)
  rw [World.size_alloc] at hz
  have ms := ((Mod.refl (fun _ => False) w).alloc (.cells #[.int .i64 safe, .int .i64 tooLong, .int .i64 tests, .int .i64 timeout, .int .i64 retries, .int .u32 fresh, .int .u8 1, .int .u32 nonce, .int .i64 sends, .int .i64 arranged, .int .i64 due, .bool true, .int .i64 made, .int .i64 passed] 43)).alloc (.cells #[.int .i64 0, .int .i64 0, .int .i64 0, .int .i64 0, .int .i64 0, .int .u8 0, .int .u32 0, .int .i64 0, .int .i64 0, .int .i64 0, .bool false, .int .i64 0, .int .i64 0] 48)
  generalize hN : w.heap.size + 1 = N at hz ⊢
  have HN : Hid (w.heap.size + 1 = N) := hN
  clear hN
  generalize ((w.alloc (.cells #[.int .i64 safe, .int .i64 tooLong, .int .i64 tests, .int .i64 timeout, .int .i64 retries, .int .u32 fresh, .int .u8 1, .int .u32 nonce, .int .i64 sends, .int .i64 arranged, .int .i64 due, .bool true, .int .i64 made, .int .i64 passed] 43)).alloc (.cells #[.int .i64 0, .int .i64 0, .int .i64 0, .int .i64 0, .int .i64 0, .int .u8 0, .int .u32 0, .int .i64 0, .int .i64 0, .int .i64 0, .bool false, .int .i64 0, .int .i64 0] 48)) = w1 at ha hz ms ⊢
  refine (searchOf_any ⟨safe, tooLong, tests, timeout, retries, 1, nonce, sends, arranged, due, true, made, passed⟩ fresh w1).mono ?_
  unfold Sr.plain
  rintro e w2 ⟨rfl, m2⟩
  have HM : Hid (Mod (fun _ => False) w w2) := ms.trans m2
  have hb := m2.stays hz id
  have hc := m2.stays ha id
  have ab := cell_of hc (k := 5) rfl
  have b0 := cell_of hb (k := 0) rfl
  have b1 := cell_of hb (k := 1) rfl
  have b2 := cell_of hb (k := 2) rfl
  have b3 := cell_of hb (k := 3) rfl
  have b4 := cell_of hb (k := 4) rfl
  have b5 := cell_of hb (k := 5) rfl
  have b6 := cell_of hb (k := 6) rfl
  have b7 := cell_of hb (k := 7) rfl
  have b8 := cell_of hb (k := 8) rfl
  have b9 := cell_of hb (k := 9) rfl
  have b10 := cell_of hb (k := 10) rfl
  have b11 := cell_of hb (k := 11) rfl
  have b12 := cell_of hb (k := 12) rfl
  have fz := frozen_of hb
  have lt := heap_lt hb
  have ne : N ≠ w2.heap.size := by omega
  have lt2 := heap_lt hc
  have ne2 : w.heap.size ≠ w2.heap.size := by omega
  have HB : Hid (w2.heap[N]? = some (.cells #[.int .i64 0, .int .i64 0, .int .i64 0, .int .i64 0, .int .i64 0, .int .u8 0, .int .u32 0, .int .i64 0, .int .i64 0, .int .i64 0, .bool false, .int .i64 0, .int .i64 0] 48)) := hb
  clear ha hz ms m2 hb hc
  dsimp only
  go_wp2_with fail
  have z := put13_heap HB.out (.int .i64 safe) (.int .i64 tooLong) (.int .i64 tests) (.int .i64 timeout) (.int .i64 retries) (.int .u8 0) (.int .u32 fresh) (.int .i64 1) (.int .i64 now) (.int .i64 (now + timeout)) (.bool false) (.int .i64 now) (.int .i64 now)
  have m := put13_mod HM.out (N := N) (Or.inr (by have := HN.out; omega)) (.int .i64 safe) (.int .i64 tooLong) (.int .i64 tests) (.int .i64 timeout) (.int .i64 retries) (.int .u8 0) (.int .u32 fresh) (.int .i64 1) (.int .i64 now) (.int .i64 (now + timeout)) (.bool false) (.int .i64 now) (.int .i64 now)
  unfold put13 at z m
  clear b0 b1 b2 b3 b4 b5 b6 b7 b8 b9 b10 b11 b12 fz HB ab lt ne lt2 ne2
  generalize World.setCell _ ⟨N, 12, none⟩ (.int .i64 now) = W0 at z m ⊢
  have z7 := heap_old z (.cells #[.int .i64 safe, .int .i64 tooLong, .int .i64 tests, .int .i64 timeout, .int .i64 retries, .int .u8 0, .int .u32 fresh, .int .i64 1, .int .i64 now, .int .i64 (now + timeout), .bool false, .int .i64 now, .int .i64 now] 48)
  have m7 := m.alloc (.cells #[.int .i64 safe, .int .i64 tooLong, .int .i64 tests, .int .i64 timeout, .int .i64 retries, .int .u8 0, .int .u32 fresh, .int .i64 1, .int .i64 now, .int .i64 (now + timeout), .bool false, .int .i64 now, .int .i64 now] 48)
  generalize W0.alloc (.cells #[.int .i64 safe, .int .i64 tooLong, .int .i64 tests, .int .i64 timeout, .int .i64 retries, .int .u8 0, .int .u32 fresh, .int .i64 1, .int .i64 now, .int .i64 (now + timeout), .bool false, .int .i64 now, .int .i64 now] 48) = W at z7 m7 ⊢
  have k0 := cell_of z7 (k := 0) rfl
  have k1 := cell_of z7 (k := 1) rfl
  have k2 := cell_of z7 (k := 2) rfl
  have k3 := cell_of z7 (k := 3) rfl
  have k4 := cell_of z7 (k := 4) rfl
  have k5 := cell_of z7 (k := 5) rfl
  have k6 := cell_of z7 (k := 6) rfl
  have k7 := cell_of z7 (k := 7) rfl
  have k8 := cell_of z7 (k := 8) rfl
  have k9 := cell_of z7 (k := 9) rfl
  have k10 := cell_of z7 (k := 10) rfl
  have k11 := cell_of z7 (k := 11) rfl
  have k12 := cell_of z7 (k := 12) rfl
  exact bodyPost_ret (v := .agg #[.int .i64 safe, .int .i64 tooLong, .int .i64 tests, .int .i64 timeout, .int .i64 retries, .int .u8 0, .int .u32 fresh, .int .i64 1, .int .i64 now, .int .i64 (now + timeout), .bool false, .int .i64 now, .int .i64 now]) (by simp [results, Try.results21, go_sem, k0, k1, k2, k3, k4, k5, k6, k7, k8, k9, k10, k11, k12]) rfl ⟨rfl, m7⟩

set_option maxRecDepth 100000 in
set_option maxHeartbeats 4000000 in
theorem after_a2y (safe tooLong tests timeout retries nonce sends arranged due made passed fresh now : Int) (w : World) (s0 : 0 ≤ safe) (s1 : safe ≤ 9223372036) (p0 : 0 ≤ passed) (p1 : passed ≤ 9223372036854775807) (t0 : 0 ≤ timeout) (t1 : timeout ≤ 9223372036854775807) (n0 : 0 ≤ now) (n1 : now ≤ 9223372036854775807)  (hl : 3500000000 < now - passed) (hd : 9223372036854775807 - now < timeout) :
    Calls Try.prog 21 #[.agg #[.int .i64 safe, .int .i64 tooLong, .int .i64 tests, .int .i64 timeout, .int .i64 retries, .int .u32 fresh, .int .u8 1, .int .u32 nonce, .int .i64 sends, .int .i64 arranged, .int .i64 due, .bool true, .int .i64 made, .int .i64 passed], .int .i64 now] w fun e w' => e = .returned (.agg #[.int .i64 safe, .int .i64 tooLong, .int .i64 tests, .int .i64 timeout, .int .i64 retries, .int .u8 0, .int .u32 fresh, .int .i64 1, .int .i64 now, .int .i64 9223372036854775807, .bool false, .int .i64 now, .int .i64 now]) ∧ Mod (fun _ => False) w w' := by
  go_enter Try.func21, Try.ntmps21
  go_wp2_with fail
  simp only [show decide (now - passed ≤ 3500000000) = false by simp; omega]
  have ha := heap_old (heap_new w (.cells #[.int .i64 safe, .int .i64 tooLong, .int .i64 tests, .int .i64 timeout, .int .i64 retries, .int .u32 fresh, .int .u8 1, .int .u32 nonce, .int .i64 sends, .int .i64 arranged, .int .i64 due, .bool true, .int .i64 made, .int .i64 passed] 43)) (.cells #[.int .i64 0, .int .i64 0, .int .i64 0, .int .i64 0, .int .i64 0, .int .u8 0, .int .u32 0, .int .i64 0, .int .i64 0, .int .i64 0, .bool false, .int .i64 0, .int .i64 0] 48)
  have hz := heap_new (w.alloc (.cells #[.int .i64 safe, .int .i64 tooLong, .int .i64 tests, .int .i64 timeout, .int .i64 retries, .int .u32 fresh, .int .u8 1, .int .u32 nonce, .int .i64 sends, .int .i64 arranged, .int .i64 due, .bool true, .int .i64 made, .int .i64 passed] 43)) (.cells #[.int .i64 0, .int .i64 0, .int .i64 0, .int .i64 0, .int .i64 0, .int .u8 0, .int .u32 0, .int .i64 0, .int .i64 0, .int .i64 0, .bool false, .int .i64 0, .int .i64 0] 48)
  rw [World.size_alloc] at hz
  have ms := ((Mod.refl (fun _ => False) w).alloc (.cells #[.int .i64 safe, .int .i64 tooLong, .int .i64 tests, .int .i64 timeout, .int .i64 retries, .int .u32 fresh, .int .u8 1, .int .u32 nonce, .int .i64 sends, .int .i64 arranged, .int .i64 due, .bool true, .int .i64 made, .int .i64 passed] 43)).alloc (.cells #[.int .i64 0, .int .i64 0, .int .i64 0, .int .i64 0, .int .i64 0, .int .u8 0, .int .u32 0, .int .i64 0, .int .i64 0, .int .i64 0, .bool false, .int .i64 0, .int .i64 0] 48)
  generalize hN : w.heap.size + 1 = N at hz ⊢
  have HN : Hid (w.heap.size + 1 = N) := hN
  clear hN
  generalize ((w.alloc (.cells #[.int .i64 safe, .int .i64 tooLong, .int .i64 tests, .int .i64 timeout, .int .i64 retries, .int .u32 fresh, .int .u8 1, .int .u32 nonce, .int .i64 sends, .int .i64 arranged, .int .i64 due, .bool true, .int .i64 made, .int .i64 passed] 43)).alloc (.cells #[.int .i64 0, .int .i64 0, .int .i64 0, .int .i64 0, .int .i64 0, .int .u8 0, .int .u32 0, .int .i64 0, .int .i64 0, .int .i64 0, .bool false, .int .i64 0, .int .i64 0] 48)) = w1 at ha hz ms ⊢
  refine (searchOf_any ⟨safe, tooLong, tests, timeout, retries, 1, nonce, sends, arranged, due, true, made, passed⟩ fresh w1).mono ?_
  unfold Sr.plain
  rintro e w2 ⟨rfl, m2⟩
  have HM : Hid (Mod (fun _ => False) w w2) := ms.trans m2
  have hb := m2.stays hz id
  have hc := m2.stays ha id
  have ab := cell_of hc (k := 5) rfl
  have b0 := cell_of hb (k := 0) rfl
  have b1 := cell_of hb (k := 1) rfl
  have b2 := cell_of hb (k := 2) rfl
  have b3 := cell_of hb (k := 3) rfl
  have b4 := cell_of hb (k := 4) rfl
  have b5 := cell_of hb (k := 5) rfl
  have b6 := cell_of hb (k := 6) rfl
  have b7 := cell_of hb (k := 7) rfl
  have b8 := cell_of hb (k := 8) rfl
  have b9 := cell_of hb (k := 9) rfl
  have b10 := cell_of hb (k := 10) rfl
  have b11 := cell_of hb (k := 11) rfl
  have b12 := cell_of hb (k := 12) rfl
  have fz := frozen_of hb
  have lt := heap_lt hb
  have ne : N ≠ w2.heap.size := by omega
  have lt2 := heap_lt hc
  have ne2 : w.heap.size ≠ w2.heap.size := by omega
  have HB : Hid (w2.heap[N]? = some (.cells #[.int .i64 0, .int .i64 0, .int .i64 0, .int .i64 0, .int .i64 0, .int .u8 0, .int .u32 0, .int .i64 0, .int .i64 0, .int .i64 0, .bool false, .int .i64 0, .int .i64 0] 48)) := hb
  clear ha hz ms m2 hb hc
  dsimp only
  go_wp2_with fail
  have z := put13_heap HB.out (.int .i64 safe) (.int .i64 tooLong) (.int .i64 tests) (.int .i64 timeout) (.int .i64 retries) (.int .u8 0) (.int .u32 fresh) (.int .i64 1) (.int .i64 now) (.int .i64 9223372036854775807) (.bool false) (.int .i64 now) (.int .i64 now)
  have m := put13_mod HM.out (N := N) (Or.inr (by have := HN.out; omega)) (.int .i64 safe) (.int .i64 tooLong) (.int .i64 tests) (.int .i64 timeout) (.int .i64 retries) (.int .u8 0) (.int .u32 fresh) (.int .i64 1) (.int .i64 now) (.int .i64 9223372036854775807) (.bool false) (.int .i64 now) (.int .i64 now)
  unfold put13 at z m
  clear b0 b1 b2 b3 b4 b5 b6 b7 b8 b9 b10 b11 b12 fz HB ab lt ne lt2 ne2
  generalize World.setCell _ ⟨N, 12, none⟩ (.int .i64 now) = W0 at z m ⊢
  have z7 := heap_old z (.cells #[.int .i64 safe, .int .i64 tooLong, .int .i64 tests, .int .i64 timeout, .int .i64 retries, .int .u8 0, .int .u32 fresh, .int .i64 1, .int .i64 now, .int .i64 9223372036854775807, .bool false, .int .i64 now, .int .i64 now] 48)
  have m7 := m.alloc (.cells #[.int .i64 safe, .int .i64 tooLong, .int .i64 tests, .int .i64 timeout, .int .i64 retries, .int .u8 0, .int .u32 fresh, .int .i64 1, .int .i64 now, .int .i64 9223372036854775807, .bool false, .int .i64 now, .int .i64 now] 48)
  generalize W0.alloc (.cells #[.int .i64 safe, .int .i64 tooLong, .int .i64 tests, .int .i64 timeout, .int .i64 retries, .int .u8 0, .int .u32 fresh, .int .i64 1, .int .i64 now, .int .i64 9223372036854775807, .bool false, .int .i64 now, .int .i64 now] 48) = W at z7 m7 ⊢
  have k0 := cell_of z7 (k := 0) rfl
  have k1 := cell_of z7 (k := 1) rfl
  have k2 := cell_of z7 (k := 2) rfl
  have k3 := cell_of z7 (k := 3) rfl
  have k4 := cell_of z7 (k := 4) rfl
  have k5 := cell_of z7 (k := 5) rfl
  have k6 := cell_of z7 (k := 6) rfl
  have k7 := cell_of z7 (k := 7) rfl
  have k8 := cell_of z7 (k := 8) rfl
  have k9 := cell_of z7 (k := 9) rfl
  have k10 := cell_of z7 (k := 10) rfl
  have k11 := cell_of z7 (k := 11) rfl
  have k12 := cell_of z7 (k := 12) rfl
  exact bodyPost_ret (v := .agg #[.int .i64 safe, .int .i64 tooLong, .int .i64 tests, .int .i64 timeout, .int .i64 retries, .int .u8 0, .int .u32 fresh, .int .i64 1, .int .i64 now, .int .i64 9223372036854775807, .bool false, .int .i64 now, .int .i64 now]) (by simp [results, Try.results21, go_sem, k0, k1, k2, k3, k4, k5, k6, k7, k8, k9, k10, k11, k12]) rfl ⟨rfl, m7⟩

end Go.Proofs.Qxb6616897a
