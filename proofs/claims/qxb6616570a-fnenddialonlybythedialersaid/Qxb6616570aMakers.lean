/- ZZnewHistory, ZZnewRecord, ZZnewPart, ZZnewEntry, ZZsetEntries, ZZsetDialer, ZZmarkNews. -/
import Derived.Test.Qxb6616570aForget
import Derived.Deep.DrawnRows
import Derived.Deep.DeepCutAuto
import Derived.Deep.Light
import Derived.Deep.RegionLaw
set_option linter.unusedSimpArgs false
set_option linter.unusedVariables false
namespace Go.Proofs.Qxb6616570a
open Go.RowKit

attribute [local go_sem ↓] Go.wp_at_zero Go.wp_at_succ

set_option maxHeartbeats 400000 in
theorem newHistory_any (w : World) :
    Calls Try.prog 28 #[] w fun e w' => e = .returned (.pointer (some ⟨w.heap.size + 1, 0, none⟩)) ∧ w' = (w.alloc (.map #[] 0)).alloc (.cells #[.int .i32 0, .int .u32 0, .map (some w.heap.size), .int .i64 0] 98) := by
  have hmm := @run_makeMap Try.prog
  go_enter Try.func28, Try.ntmps28
  go_wp2
  go_ret
  exact ⟨rfl, rfl⟩

set_option maxHeartbeats 400000 in
theorem newRecord_any (f : Int) (g : Bool) (w : World) :
    Calls Try.prog 29 #[.int .i64 f, .bool g] w fun e w' => e = .returned (.pointer (some ⟨w.heap.size, 0, none⟩)) ∧ w' = w.alloc (.cells #[.int .i64 f, .int .u64 0, .int .i64 0, .pointer none, .bool g, .pointer none, .pointer none, .pointer none] 86) := by
  go_enter Try.func29, Try.ntmps29
  go_wp2
  go_ret
  exact ⟨rfl, rfl⟩

set_option maxHeartbeats 400000 in
theorem newPart_any (h : Nat) (g : Bool) (w : World) :
    Calls Try.prog 30 #[.pointer (some ⟨h, 0, none⟩), .bool g] w fun e w' => e = .returned (.pointer (some ⟨w.heap.size, 0, none⟩)) ∧ w' = w.alloc (.cells #[.pointer (some ⟨h, 0, none⟩), .bool g, .slice none 0 0, .chan none, .int .u32 0] 106) := by
  go_enter Try.func30, Try.ntmps30
  go_wp2
  go_ret
  exact ⟨rfl, rfl⟩

set_option maxHeartbeats 400000 in
theorem newEntry_any (p r : Nat) (s : ByteArray) (x : Option Addr) (w : World) :
    Calls Try.prog 31 #[.pointer (some ⟨p, 0, none⟩), .string s, .pointer (some ⟨r, 0, none⟩), .pointer x] w fun e w' => e = .returned (.pointer (some ⟨w.heap.size, 0, none⟩)) ∧ w' = w.alloc (.cells #[.pointer (some ⟨p, 0, none⟩), .string s, .pointer (some ⟨r, 0, none⟩), .pointer x, .bool false, .int .u8 0] 109) := by
  go_enter Try.func31, Try.ntmps31
  go_wp2
  go_ret
  exact ⟨rfl, rfl⟩

set_option maxHeartbeats 400000 in
theorem setEntries_any (r : Nat) (x : Option Addr) (v : Value) (w : World) (hc : w.cell? ⟨r, 7, none⟩ = some v) (hf : w.frozen? ⟨r, 7, none⟩ = false) :
    Calls Try.prog 32 #[.pointer (some ⟨r, 0, none⟩), .pointer x] w fun e w' => e = .returned (.tuple #[]) ∧ w' = w.setCell ⟨r, 7, none⟩ (.pointer x) := by
  go_enter Try.func32, Try.ntmps32
  go_wp2
  go_end0
  exact ⟨rfl, rfl⟩

set_option maxHeartbeats 400000 in
theorem setDialer_any (r : Nat) (x y : Option Addr) (v u : Value) (w : World) (hc : w.cell? ⟨r, 5, none⟩ = some v) (hc' : w.cell? ⟨r, 6, none⟩ = some u) (hf : ∀ k, w.frozen? ⟨r, k, none⟩ = false) :
    Calls Try.prog 34 #[.pointer (some ⟨r, 0, none⟩), .pointer x, .pointer y] w fun e w' => e = .returned (.tuple #[]) ∧ w' = (w.setCell ⟨r, 5, none⟩ (.pointer x)).setCell ⟨r, 6, none⟩ (.pointer y) := by
  go_enter Try.func34, Try.ntmps34
  go_wp2
  go_end0
  exact ⟨rfl, rfl⟩

theorem mark_close {L : Lay} {R : Raw} {w0 w1 w2 : World} {a g cap : Nat} (ha : a < L.n) (h : Rep L R w1) (hm : Mod L.own w0 w1) (hown : w2.ownsRow 0 37 1 (.slice (some ⟨g, 0, none⟩) (0 + 1) cap) (0 + 1) ([] ++ [.pointer (some ⟨L.E a, 0, none⟩)])) (hg : w1.grownBy w2 none) :
    Rep L { R with pn := upd R.pn a true } (w2.setCell ⟨L.P a, 2, none⟩ (.slice (some ⟨g, 0, none⟩) 1 cap)) ∧ Mod L.own w0 (w2.setCell ⟨L.P a, 2, none⟩ (.slice (some ⟨g, 0, none⟩) 1 cap)) := by
  obtain ⟨_, hx | ⟨g', cap', cur, hv, _, hgg, _, _, hsz, htk⟩⟩ := hown
  · cases hx.1
  · cases hv
    exact ⟨(h.still ((Mod.refl _ _).grown hg)).setPn ha hgg (own_first htk), (hm.grown hg).setCell (Or.inl (own_P L ha)) _⟩

set_option maxHeartbeats 4000000 in
theorem markNews_any {L : Lay} {R : Raw} {w : World} (h : Rep L R w) {a : Nat} (ha : a < L.n) (hn : R.pn a = false) :
    Calls Try.prog 33 #[.pointer (some ⟨L.E a, 0, none⟩)] w fun e w' => e = .returned (.tuple #[]) ∧ Rep L { R with en := upd R.en a true, pn := upd R.pn a true, ph := upd R.ph a true } w' ∧ Mod L.own w w' := by
  have e4 := h.ce4 ha
  have fe := h.fe ha 4
  have r1 := h.setEn ha true
  have m1 := (Mod.refl L.own w).setCell (p := ⟨L.E a, 4, none⟩) (Or.inl (own_E L ha)) (.bool true)
  go_enter Try.func33, Try.ntmps33
  go_upto_region 1 with fail
  generalize w.setCell ⟨L.E a, 4, none⟩ (.bool true) = w1 at r1 m1 ⊢
  clear e4 fe h
  have e0 := r1.ce0 ha
  have p2 := r1.cp2f ha hn
  have fp := r1.fp ha 2
  have lE := heap_lt (r1.he a ha)
  obtain ⟨nv, hpp, _⟩ := r1.hp a ha
  have lP := heap_lt hpp
  have ne1 := World.new_ne w1 _ e0
  have ne2 := World.new_ne w1 _ p2
  have HR1 : Hid (Rep L { R with en := upd R.en a true } w1) := r1
  have HM1 : Hid (Mod L.own w w1) := m1
  have HN : Hid (R.pn a = false) := hn
  have ne3 := r1.nePE ha ha
  obtain ⟨i0, hi0, hz0, hz1, hz2⟩ := info_parts info37
  have HI : Hid (Try.prog.info? 37 = some i0 ∧ i0.zero = some (.pointer none) ∧ i0.size = 1 ∧ i0.bytes = 8) := ⟨hi0, hz0, hz1, hz2⟩
  clear r1 m1 hn hpp hi0 hz0 hz1 hz2
  have r2 := (HR1.out.alloc (.cells #[.pointer (some ⟨L.E a, 0, none⟩)] 37)).drew
  have HR2 : Hid (Rep L { R with en := upd R.en a true } (w1.alloc (.cells #[.pointer (some ⟨L.E a, 0, none⟩)] 37)).drew) := r2
  have HB : Hid ((w1.alloc (.cells #[.pointer (some ⟨L.E a, 0, none⟩)] 37)).drew.heap[w1.heap.size]? = some (.cells #[.pointer (some ⟨L.E a, 0, none⟩)] 37 (0, 0))) := heap_alloc_new w1 _
  clear r2
  go_cut [0] (fun s wx => s = .pointer (some ⟨L.E a, 0, none⟩) ∧ Rep L { R with en := upd R.en a true, pn := upd R.pn a true } wx ∧ Mod L.own w1 wx)
  case first =>
    go_region_law ((refine step_append_lies _ (by rfl) _ _ _ (by rfl) 0 37 i0 _ 1 8 Try.underlying28 HI.out.1 HI.out.2.1 HI.out.2.2.1 HI.out.2.2.2 rfl (by omega) (.slice none 0 0) 0 [] (by rfl) ⟨rfl, Or.inl ⟨rfl, rfl⟩⟩ ⟨w1.heap.size, 0, none⟩ 1 1 [.pointer (some ⟨L.E a, 0, none⟩)] (by rfl) (by rfl) (World.news_of_block (cs := #[.pointer (some ⟨L.E a, 0, none⟩)]) (t := 37) (fr := (0, 0)) HB.out) (by simp [Value.oneCell']) (by omega) (by unfold maxLen; omega) (by omega) (by omega) (w1.heap.size + 1) (by simp) ?_; intro g cap w2 hown hgrow hat hlt; have k2 := (HR2.out.still ((Mod.refl _ _).grown hgrow)).cp2f ha HN.out; have kf := (HR2.out.still ((Mod.refl _ _).grown hgrow)).fp ha 2; have k0 := (HR2.out.still ((Mod.refl _ _).grown hgrow)).ce0 ha))
    all_goals go_wp2_with fail
    all_goals go_meet
    all_goals go_light
    all_goals exact ⟨rfl, mark_close ha HR2.out (((Mod.refl L.own w1).alloc (.cells #[.pointer (some ⟨L.E a, 0, none⟩)] 37)).drew) hown hgrow⟩
  case rest =>
    obtain ⟨rfl, r3, m3⟩ := hcut
    have e0 := r3.ce0 ha
    have HR3 : Hid _ := r3
    have HM3 : Hid (Mod L.own w1 wc) := m3
    have k4 := r3.cp4 ha
    have f4 := r3.fp ha 4
    clear r3 m3
    go_wp2_with fail
    refine (store_any (L.P a) 4 _ _ k4 f4).mono ?_
    rintro e w' ⟨rfl, rfl⟩
    go_wp2
    go_end0
    exact ⟨rfl, (HR3.out.setPh ha).drew, ((HM1.out.trans HM3.out).setCell (Or.inl (own_P L ha)) _).drew⟩

end Go.Proofs.Qxb6616570a
