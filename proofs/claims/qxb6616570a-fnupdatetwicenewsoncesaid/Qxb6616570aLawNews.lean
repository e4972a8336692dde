/- FnUpdateTwiceNewsOnce: the walk. -/
import Derived.Test.Qxb6616570aLaw2
import Derived.Test.Qxb6616570aOpen
set_option linter.unusedSimpArgs false
set_option linter.unusedVariables false
namespace Go.Proofs.Qxb6616570a
open Go.RowKit

set_option maxRecDepth 100000 in
set_option maxHeartbeats 2000000 in
theorem news_long (peer : ByteArray) (a : Option Addr) (len cap : Nat) (i : Int) (d f : Int) (g : Bool) (f2 : Int) (g2 r1 : Bool) (f3 : Int) (g3 r2 : Bool) (w : World) (hp : peer.size ≤ maxLen) (hl : len ≤ maxLen) (h : 65536 < peer.size ∨ 65536 < len) :
    Calls Try.prog 9 #[.string peer, .slice a len cap, .int .i64 i, .int .i64 d, .int .i64 f, .bool g, .int .i64 f2, .bool g2, .bool r1, .int .i64 f3, .bool g3, .bool r2] w fun e w' => e = .returned (.bool true) ∧ w' = w := by
  unfold maxLen at hp hl
  go_enter Try.func9, Try.ntmps9
  go_wp2
  all_goals (go_ret; exact ⟨rfl, rfl⟩)

set_option maxRecDepth 100000 in
set_option maxHeartbeats 2000000 in
theorem news_shape (peer : ByteArray) (a : Option Addr) (len cap : Nat) (i : Int) (d f : Int) (g : Bool) (f2 : Int) (g2 r1 : Bool) (f3 : Int) (g3 r2 : Bool) (w : World) (hp : peer.size ≤ 65536) (hl : len ≤ 65536) (h : ¬ Shape len i d (-1)) :
    Calls Try.prog 9 #[.string peer, .slice a len cap, .int .i64 i, .int .i64 d, .int .i64 f, .bool g, .int .i64 f2, .bool g2, .bool r1, .int .i64 f3, .bool g3, .bool r2] w fun e w' => e = .returned (.bool true) ∧ w' = w := by
  have H : Hid (¬ Shape len i d (-1)) := h
  clear h
  go_enter Try.func9, Try.ntmps9
  go_wp2_with (first | (go_at_call 26; go_in) | (go_at_call 11; refine (shapeOK_false _ _ _ _ _ H.out).mono ?_; rintro e w' ⟨rfl, rfl⟩))
  all_goals (go_ret; exact ⟨rfl, rfl⟩)

set_option maxRecDepth 100000 in
set_option maxHeartbeats 4000000 in
theorem news_main (peer : ByteArray) (sb so len cap : Nat) (F N : Nat → Bool) (i : Nat) (d f : Int) (g : Bool) (f2 : Int) (g2 r1 : Bool) (f3 : Int) (g3 r2 : Bool) (w : World) (hp : peer.size ≤ 65536) (hl : len ≤ 65536) (hs : Specs w sb so len F N) (h : Shape len i d (-1)) :
    Calls Try.prog 9 #[.string peer, .slice (some ⟨sb, so, none⟩) len cap, .int .i64 i, .int .i64 d, .int .i64 f, .bool g, .int .i64 f2, .bool g2, .bool r1, .int .i64 f3, .bool g3, .bool r2] w fun e w' => e = .returned (.bool true) ∧ Below w.heap.size w w' := by
  have HSh : Hid (Shape len i d (-1)) := h
  obtain ⟨h1, h2, h3, h4, h5, h6, h7, h8⟩ := h
  have HS : Hid (Specs w sb so len F N) := hs
  clear h8 hs
  go_enter Try.func9, Try.ntmps9
  go_wp2_with (first | (go_at_call 26; go_in) | (go_at_call 11; refine (shapeOK_true _ _ _ _ _ HSh.out).mono ?_; rintro e w' ⟨rfl, hw⟩; obtain rfl := hw.symm))
  refine (build_any HS.out hl peer d (-1) f g h4 h5 h6 h7).mono ?_
  rintro e w1 ⟨L, hn, hpe, hF, hb, rfl, hh, m1⟩
  subst hn hpe hF
  have HB : Hid (L.base = w.heap.size ∧ Hold L (freshS N d (-1) f g L.n) w1 ∧ Mod (fun _ => False) w w1) := ⟨hb, hh, m1⟩
  clear hb hh m1
  go_wp2_with fail
  have hs1 := HS.out.mod (HB.out.2.2.alloc (.cells #[.pointer (some ⟨L.h, 0, none⟩), .pointer (some ⟨L.r, 0, none⟩), .slice (some ⟨L.pb, 0, none⟩) L.n L.n, .slice (some ⟨L.eb, 0, none⟩) L.n L.n] 30)) id
  refine (fresh_any hs1 hl d (-1) f g).mono ?_
  rintro e w2 ⟨X, xn, b1, b2, b3, rfl, hx, m2⟩
  rw [World.size_alloc] at b1 b2 b3
  have HX : Hid (X.n = L.n ∧ w1.heap.size + 1 ≤ X.kb ∧ w1.heap.size + 1 ≤ X.ob ∧ w1.heap.size + 1 ≤ X.nb ∧ XArr X (freshS N d (-1) f g L.n) w2 ∧ Mod (fun _ => False) (w1.alloc (.cells #[.pointer (some ⟨L.h, 0, none⟩), .pointer (some ⟨L.r, 0, none⟩), .slice (some ⟨L.pb, 0, none⟩) L.n L.n, .slice (some ⟨L.eb, 0, none⟩) L.n L.n] 30)) w2) := ⟨xn, b1, b2, b3, hx, m2⟩
  clear hs1 b1 b2 b3 hx m2
  unfold XLay.xC
  rw [xn]
  clear xn
  go_upto_region 9 with fail
  have HC := LC.start HS.out HB.out.1 HB.out.2.1 HB.out.2.2 HX.out.2.2.2.2.1 HX.out.1 HX.out.2.1 HX.out.2.2.1 HX.out.2.2.2.1 HX.out.2.2.2.2.2
  have HS0 : Hid ((freshS N d (-1) f g L.n).dialer = d ∧ (freshS N d (-1) f g L.n).offer = (-1) ∧ ∀ j, j < L.n → (freshS N d (-1) f g L.n).kept j = true) := ⟨rfl, rfl, fun j hj => by simp [freshS]; omega⟩
  clear HX HB HS
  generalize w2.alloc _ = w3 at HC ⊢
  generalize w1.heap.size = wb at HC ⊢
  generalize w2.heap.size = xb at HC ⊢
  generalize freshS N d (-1) f g L.n = S0 at HC HS0 ⊢
  have hi : i < L.n := by omega
  have HC3 : Hid (LC w L S0 S0 X wb xb sb so N w3) := HC
  have q2 : (0 : Int) ≤ (i : Int) := by omega
  clear HC
  have HKS0 : Hid (S0.kept i = true) := HS0.out.2.2 i hi
  have c3 := HC3.out.cw3
  have ce := HC3.out.ceb hi
  go_upto_region 10 with fail
  clear c3 ce
  generalize hS : setS L S0 i f2 g2 r1 = S1
  have HKS1 : Hid (S1.kept i = true) := by show _ = true; rw [← hS, setS_kept]; exact HKS0.out
  have HES1 : Hid (setS L S0 i f2 g2 r1 = S1) := hS
  generalize hbb : decide (0 ≤ S1.dialer) = bbS1
  have HBBS1 : Hid (decide (0 ≤ S1.dialer) = bbS1) := hbb
  clear hS hbb
  go_wp2_with fail
  refine (updateSet_rec HC3.out.hold hi HKS0.out f2 g2 r1 HES1.out HBBS1.out).mono ?_
  rintro e w4 ⟨rfl, hh, mm⟩
  have HC4 : Hid (LC w L S1 S0 X wb xb sb so N w4) := HC3.out.hist mm hh
  clear hh mm
  go_upto_region 11 with fail
  have HC5 : Hid (LC w L S1 S0 X wb xb sb so N (w4.alloc (.cells #[.int .i64 S1.failures, .int .u64 0, .int .i64 0, .pointer none, .bool S1.failing, .bool bbS1] 45))) := HC4.out.still ((Mod.refl _ _).alloc _)
  have HB5 : Hid ((w4.alloc (.cells #[.int .i64 S1.failures, .int .u64 0, .int .i64 0, .pointer none, .bool S1.failing, .bool bbS1] 45)).heap[w4.heap.size]? = some (.cells #[.int .i64 S1.failures, .int .u64 0, .int .i64 0, .pointer none, .bool S1.failing, .bool bbS1] 45)) := heap_alloc_new w4 _
  generalize w4.alloc (.cells #[.int .i64 S1.failures, .int .u64 0, .int .i64 0, .pointer none, .bool S1.failing, .bool bbS1] 45) = w5 at HC5 HB5 ⊢
  generalize w4.heap.size = rbS1 at HB5 ⊢
  have x5 := HC5.out.x.c5
  have x6 := HC5.out.x.c6
  have fx := HC5.out.x.fx
  go_upto_region 13 with fail
  have HC6 : Hid (LC w L S1 { S0 with failures := f2, failing := g2 } X wb xb sb so N ((w5.setCell ⟨xb, 5, none⟩ (.int .i64 f2)).setCell ⟨xb, 6, none⟩ (.bool g2))) := (HC5.out.setFailures f2).setFailing g2
  have HB6 : Hid _ := (HC5.out.setFailures f2).recWant (w' := (w5.setCell ⟨xb, 5, none⟩ (.int .i64 f2)).setCell ⟨xb, 6, none⟩ (.bool g2)) ((Mod.refl _ _).setCell (Or.inl (Or.inl rfl)) _) (HC5.out.recWant (w' := w5.setCell ⟨xb, 5, none⟩ (.int .i64 f2)) ((Mod.refl _ _).setCell (Or.inl (Or.inl rfl)) _) HB5.out)
  clear x5 x6 fx HB5
  generalize (w5.setCell ⟨xb, 5, none⟩ (.int .i64 f2)).setCell ⟨xb, 6, none⟩ (.bool g2) = w6 at HC6 HB6 ⊢
  cases r1
  · have HC7 : Hid (LC w L S1 S1 X wb xb sb so N w6) := by
      have e := HC6.out
      rw [show ({ S0 with failures := f2, failing := g2 } : St) = S1 from HES1.out] at e
      exact e
    have HB7 : Hid _ := HB6.out
    clear HC6 HB6
    have k0 := HC7.out.cw0
    have k1 := HC7.out.cw1
    have k2 := HC7.out.cw2
    have k3 := HC7.out.cw3
    have x0 := HC7.out.x.c0
    have x1 := HC7.out.x.c1
    have x2 := HC7.out.x.c2
    have x3 := HC7.out.x.c3
    have x4 := HC7.out.x.c4
    have x5 := HC7.out.x.c5
    have x6 := HC7.out.x.c6
    rw [HC7.out.xn] at x0 x3 x4
    have z0 := cell_of HB7.out (k := 0) rfl
    have z1 := cell_of HB7.out (k := 1) rfl
    have z2 := cell_of HB7.out (k := 2) rfl
    have z3 := cell_of HB7.out (k := 3) rfl
    have z4 := cell_of HB7.out (k := 4) rfl
    have z5 := cell_of HB7.out (k := 5) rfl
    go_wp2_with fail
    refine (HC7.out.recIs HBBS1.out).mono ?_
    rintro e w8 ⟨rfl, mm⟩
    have HC8 : Hid (LC w L S1 S1 X wb xb sb so N w8) := HC7.out.still mm
    clear mm k0 k1 k2 k3 x0 x1 x2 x3 x4 x5 x6 z0 z1 z2 z3 z4 z5
    have k0 := HC8.out.cw0
    have k1 := HC8.out.cw1
    have k2 := HC8.out.cw2
    have k3 := HC8.out.cw3
    have x0 := HC8.out.x.c0
    have x1 := HC8.out.x.c1
    have x2 := HC8.out.x.c2
    have x3 := HC8.out.x.c3
    have x4 := HC8.out.x.c4
    have x5 := HC8.out.x.c5
    have x6 := HC8.out.x.c6
    rw [HC8.out.xn] at x0 x3 x4
    go_wp2_with fail
    refine (HC8.out.holds hl).mono ?_
    rintro e w9 ⟨rfl, hc⟩
    have HC9 : Hid (LC w L S1 S1 X wb xb sb so N w9) := hc
    clear hc k0 k1 k2 k3 x0 x1 x2 x3 x4 x5 x6
    clear HB7
    generalize hS : setS L S1 i f3 g3 r2 = S2
    have HKS2 : Hid (S2.kept i = true) := by show _ = true; rw [← hS, setS_kept]; exact HKS1.out
    have HES2 : Hid (setS L S1 i f3 g3 r2 = S2) := hS
    generalize hbb : decide (0 ≤ S2.dialer) = bbS2
    have HBBS2 : Hid (decide (0 ≤ S2.dialer) = bbS2) := hbb
    clear hS hbb
    go_wp2_with fail
    refine (updateSet_rec HC9.out.hold hi HKS1.out f3 g3 r2 HES2.out HBBS2.out).mono ?_
    rintro e w10 ⟨rfl, hh, mm⟩
    have HC10 : Hid (LC w L S2 S1 X wb xb sb so N w10) := HC9.out.hist mm hh
    clear hh mm
    go_upto_region 18 with fail
    have HC11 : Hid (LC w L S2 S1 X wb xb sb so N (w10.alloc (.cells #[.int .i64 S2.failures, .int .u64 0, .int .i64 0, .pointer none, .bool S2.failing, .bool bbS2] 45))) := HC10.out.still ((Mod.refl _ _).alloc _)
    have HB11 : Hid ((w10.alloc (.cells #[.int .i64 S2.failures, .int .u64 0, .int .i64 0, .pointer none, .bool S2.failing, .bool bbS2] 45)).heap[w10.heap.size]? = some (.cells #[.int .i64 S2.failures, .int .u64 0, .int .i64 0, .pointer none, .bool S2.failing, .bool bbS2] 45)) := heap_alloc_new w10 _
    generalize w10.alloc (.cells #[.int .i64 S2.failures, .int .u64 0, .int .i64 0, .pointer none, .bool S2.failing, .bool bbS2] 45) = w11 at HC11 HB11 ⊢
    generalize w10.heap.size = rbS2 at HB11 ⊢
    have x5 := HC11.out.x.c5
    have x6 := HC11.out.x.c6
    have fx := HC11.out.x.fx
    go_upto_region 20 with fail
    have HC12 : Hid (LC w L S2 { S1 with failures := f3, failing := g3 } X wb xb sb so N ((w11.setCell ⟨xb, 5, none⟩ (.int .i64 f3)).setCell ⟨xb, 6, none⟩ (.bool g3))) := (HC11.out.setFailures f3).setFailing g3
    have HB12 : Hid _ := (HC11.out.setFailures f3).recWant (w' := (w11.setCell ⟨xb, 5, none⟩ (.int .i64 f3)).setCell ⟨xb, 6, none⟩ (.bool g3)) ((Mod.refl _ _).setCell (Or.inl (Or.inl rfl)) _) (HC11.out.recWant (w' := w11.setCell ⟨xb, 5, none⟩ (.int .i64 f3)) ((Mod.refl _ _).setCell (Or.inl (Or.inl rfl)) _) HB11.out)
    clear x5 x6 fx HB11
    generalize (w11.setCell ⟨xb, 5, none⟩ (.int .i64 f3)).setCell ⟨xb, 6, none⟩ (.bool g3) = w12 at HC12 HB12 ⊢
    cases r2
    · have HC13 : Hid (LC w L S2 S2 X wb xb sb so N w12) := by
        have e := HC12.out
        rw [show ({ S1 with failures := f3, failing := g3 } : St) = S2 from HES2.out] at e
        exact e
      have HB13 : Hid _ := HB12.out
      clear HC12 HB12
      have k0 := HC13.out.cw0
      have k1 := HC13.out.cw1
      have k2 := HC13.out.cw2
      have k3 := HC13.out.cw3
      have x0 := HC13.out.x.c0
      have x1 := HC13.out.x.c1
      have x2 := HC13.out.x.c2
      have x3 := HC13.out.x.c3
      have x4 := HC13.out.x.c4
      have x5 := HC13.out.x.c5
      have x6 := HC13.out.x.c6
      rw [HC13.out.xn] at x0 x3 x4
      have z0 := cell_of HB13.out (k := 0) rfl
      have z1 := cell_of HB13.out (k := 1) rfl
      have z2 := cell_of HB13.out (k := 2) rfl
      have z3 := cell_of HB13.out (k := 3) rfl
      have z4 := cell_of HB13.out (k := 4) rfl
      have z5 := cell_of HB13.out (k := 5) rfl
      go_wp2_with fail
      refine (HC13.out.recIs HBBS2.out).mono ?_
      rintro e w14 ⟨rfl, mm⟩
      have HC14 : Hid (LC w L S2 S2 X wb xb sb so N w14) := HC13.out.still mm
      clear mm k0 k1 k2 k3 x0 x1 x2 x3 x4 x5 x6 z0 z1 z2 z3 z4 z5
      have k0 := HC14.out.cw0
      have k1 := HC14.out.cw1
      have k2 := HC14.out.cw2
      have k3 := HC14.out.cw3
      have x0 := HC14.out.x.c0
      have x1 := HC14.out.x.c1
      have x2 := HC14.out.x.c2
      have x3 := HC14.out.x.c3
      have x4 := HC14.out.x.c4
      have x5 := HC14.out.x.c5
      have x6 := HC14.out.x.c6
      rw [HC14.out.xn] at x0 x3 x4
      go_wp2_with fail
      refine (HC14.out.holds hl).mono ?_
      rintro e w15 ⟨rfl, hc⟩
      have HC15 : Hid (LC w L S2 S2 X wb xb sb so N w15) := hc
      clear hc k0 k1 k2 k3 x0 x1 x2 x3 x4 x5 x6
      clear HB13
      go_wp2
      go_ret
      exact ⟨rfl, HC15.out.below⟩
    · go_wp2_with fail
      refine (newsFrom_any (cap := cap) HC12.out.x HC12.out.sp HC12.out.xn hi hl HC12.out.xsb).mono ?_
      rintro e w13 ⟨rfl, hx7, mx7⟩
      have HC13 : Hid (LC w L S2 S2 X wb xb sb so N w13) := by
        have e := HC12.out.want mx7 hx7
        rw [show newsS L ({ S1 with failures := f3, failing := g3 } : St) i = S2 from HES2.out] at e
        exact e
      have HB13 : Hid _ := HC12.out.recWant mx7 HB12.out
      clear hx7 mx7 HB12
      have k0 := HC13.out.cw0
      have k1 := HC13.out.cw1
      have k2 := HC13.out.cw2
      have k3 := HC13.out.cw3
      have x0 := HC13.out.x.c0
      have x1 := HC13.out.x.c1
      have x2 := HC13.out.x.c2
      have x3 := HC13.out.x.c3
      have x4 := HC13.out.x.c4
      have x5 := HC13.out.x.c5
      have x6 := HC13.out.x.c6
      rw [HC13.out.xn] at x0 x3 x4
      have z0 := cell_of HB13.out (k := 0) rfl
      have z1 := cell_of HB13.out (k := 1) rfl
      have z2 := cell_of HB13.out (k := 2) rfl
      have z3 := cell_of HB13.out (k := 3) rfl
      have z4 := cell_of HB13.out (k := 4) rfl
      have z5 := cell_of HB13.out (k := 5) rfl
      go_wp2_with fail
      refine (HC13.out.recIs HBBS2.out).mono ?_
      rintro e w14 ⟨rfl, mm⟩
      have HC14 : Hid (LC w L S2 S2 X wb xb sb so N w14) := HC13.out.still mm
      clear mm k0 k1 k2 k3 x0 x1 x2 x3 x4 x5 x6 z0 z1 z2 z3 z4 z5
      have k0 := HC14.out.cw0
      have k1 := HC14.out.cw1
      have k2 := HC14.out.cw2
      have k3 := HC14.out.cw3
      have x0 := HC14.out.x.c0
      have x1 := HC14.out.x.c1
      have x2 := HC14.out.x.c2
      have x3 := HC14.out.x.c3
      have x4 := HC14.out.x.c4
      have x5 := HC14.out.x.c5
      have x6 := HC14.out.x.c6
      rw [HC14.out.xn] at x0 x3 x4
      go_wp2_with fail
      refine (HC14.out.holds hl).mono ?_
      rintro e w15 ⟨rfl, hc⟩
      have HC15 : Hid (LC w L S2 S2 X wb xb sb so N w15) := hc
      clear hc k0 k1 k2 k3 x0 x1 x2 x3 x4 x5 x6
      clear HB13
      go_wp2
      go_ret
      exact ⟨rfl, HC15.out.below⟩
  · go_wp2_with fail
    refine (newsFrom_any (cap := cap) HC6.out.x HC6.out.sp HC6.out.xn hi hl HC6.out.xsb).mono ?_
    rintro e w7 ⟨rfl, hx7, mx7⟩
    have HC7 : Hid (LC w L S1 S1 X wb xb sb so N w7) := by
      have e := HC6.out.want mx7 hx7
      rw [show newsS L ({ S0 with failures := f2, failing := g2 } : St) i = S1 from HES1.out] at e
      exact e
    have HB7 : Hid _ := HC6.out.recWant mx7 HB6.out
    clear hx7 mx7 HB6
    have k0 := HC7.out.cw0
    have k1 := HC7.out.cw1
    have k2 := HC7.out.cw2
    have k3 := HC7.out.cw3
    have x0 := HC7.out.x.c0
    have x1 := HC7.out.x.c1
    have x2 := HC7.out.x.c2
    have x3 := HC7.out.x.c3
    have x4 := HC7.out.x.c4
    have x5 := HC7.out.x.c5
    have x6 := HC7.out.x.c6
    rw [HC7.out.xn] at x0 x3 x4
    have z0 := cell_of HB7.out (k := 0) rfl
    have z1 := cell_of HB7.out (k := 1) rfl
    have z2 := cell_of HB7.out (k := 2) rfl
    have z3 := cell_of HB7.out (k := 3) rfl
    have z4 := cell_of HB7.out (k := 4) rfl
    have z5 := cell_of HB7.out (k := 5) rfl
    go_wp2_with fail
    refine (HC7.out.recIs HBBS1.out).mono ?_
    rintro e w8 ⟨rfl, mm⟩
    have HC8 : Hid (LC w L S1 S1 X wb xb sb so N w8) := HC7.out.still mm
    clear mm k0 k1 k2 k3 x0 x1 x2 x3 x4 x5 x6 z0 z1 z2 z3 z4 z5
    have k0 := HC8.out.cw0
    have k1 := HC8.out.cw1
    have k2 := HC8.out.cw2
    have k3 := HC8.out.cw3
    have x0 := HC8.out.x.c0
    have x1 := HC8.out.x.c1
    have x2 := HC8.out.x.c2
    have x3 := HC8.out.x.c3
    have x4 := HC8.out.x.c4
    have x5 := HC8.out.x.c5
    have x6 := HC8.out.x.c6
    rw [HC8.out.xn] at x0 x3 x4
    go_wp2_with fail
    refine (HC8.out.holds hl).mono ?_
    rintro e w9 ⟨rfl, hc⟩
    have HC9 : Hid (LC w L S1 S1 X wb xb sb so N w9) := hc
    clear hc k0 k1 k2 k3 x0 x1 x2 x3 x4 x5 x6
    clear HB7
    generalize hS : setS L S1 i f3 g3 r2 = S2
    have HKS2 : Hid (S2.kept i = true) := by show _ = true; rw [← hS, setS_kept]; exact HKS1.out
    have HES2 : Hid (setS L S1 i f3 g3 r2 = S2) := hS
    generalize hbb : decide (0 ≤ S2.dialer) = bbS2
    have HBBS2 : Hid (decide (0 ≤ S2.dialer) = bbS2) := hbb
    clear hS hbb
    go_wp2_with fail
    refine (updateSet_rec HC9.out.hold hi HKS1.out f3 g3 r2 HES2.out HBBS2.out).mono ?_
    rintro e w10 ⟨rfl, hh, mm⟩
    have HC10 : Hid (LC w L S2 S1 X wb xb sb so N w10) := HC9.out.hist mm hh
    clear hh mm
    go_upto_region 18 with fail
    have HC11 : Hid (LC w L S2 S1 X wb xb sb so N (w10.alloc (.cells #[.int .i64 S2.failures, .int .u64 0, .int .i64 0, .pointer none, .bool S2.failing, .bool bbS2] 45))) := HC10.out.still ((Mod.refl _ _).alloc _)
    have HB11 : Hid ((w10.alloc (.cells #[.int .i64 S2.failures, .int .u64 0, .int .i64 0, .pointer none, .bool S2.failing, .bool bbS2] 45)).heap[w10.heap.size]? = some (.cells #[.int .i64 S2.failures, .int .u64 0, .int .i64 0, .pointer none, .bool S2.failing, .bool bbS2] 45)) := heap_alloc_new w10 _
    generalize w10.alloc (.cells #[.int .i64 S2.failures, .int .u64 0, .int .i64 0, .pointer none, .bool S2.failing, .bool bbS2] 45) = w11 at HC11 HB11 ⊢
    generalize w10.heap.size = rbS2 at HB11 ⊢
    have x5 := HC11.out.x.c5
    have x6 := HC11.out.x.c6
    have fx := HC11.out.x.fx
    go_upto_region 20 with fail
    have HC12 : Hid (LC w L S2 { S1 with failures := f3, failing := g3 } X wb xb sb so N ((w11.setCell ⟨xb, 5, none⟩ (.int .i64 f3)).setCell ⟨xb, 6, none⟩ (.bool g3))) := (HC11.out.setFailures f3).setFailing g3
    have HB12 : Hid _ := (HC11.out.setFailures f3).recWant (w' := (w11.setCell ⟨xb, 5, none⟩ (.int .i64 f3)).setCell ⟨xb, 6, none⟩ (.bool g3)) ((Mod.refl _ _).setCell (Or.inl (Or.inl rfl)) _) (HC11.out.recWant (w' := w11.setCell ⟨xb, 5, none⟩ (.int .i64 f3)) ((Mod.refl _ _).setCell (Or.inl (Or.inl rfl)) _) HB11.out)
    clear x5 x6 fx HB11
    generalize (w11.setCell ⟨xb, 5, none⟩ (.int .i64 f3)).setCell ⟨xb, 6, none⟩ (.bool g3) = w12 at HC12 HB12 ⊢
    cases r2
    · have HC13 : Hid (LC w L S2 S2 X wb xb sb so N w12) := by
        have e := HC12.out
        rw [show ({ S1 with failures := f3, failing := g3 } : St) = S2 from HES2.out] at e
        exact e
      have HB13 : Hid _ := HB12.out
      clear HC12 HB12
      have k0 := HC13.out.cw0
      have k1 := HC13.out.cw1
      have k2 := HC13.out.cw2
      have k3 := HC13.out.cw3
      have x0 := HC13.out.x.c0
      have x1 := HC13.out.x.c1
      have x2 := HC13.out.x.c2
      have x3 := HC13.out.x.c3
      have x4 := HC13.out.x.c4
      have x5 := HC13.out.x.c5
      have x6 := HC13.out.x.c6
      rw [HC13.out.xn] at x0 x3 x4
      have z0 := cell_of HB13.out (k := 0) rfl
      have z1 := cell_of HB13.out (k := 1) rfl
      have z2 := cell_of HB13.out (k := 2) rfl
      have z3 := cell_of HB13.out (k := 3) rfl
      have z4 := cell_of HB13.out (k := 4) rfl
      have z5 := cell_of HB13.out (k := 5) rfl
      go_wp2_with fail
      refine (HC13.out.recIs HBBS2.out).mono ?_
      rintro e w14 ⟨rfl, mm⟩
      have HC14 : Hid (LC w L S2 S2 X wb xb sb so N w14) := HC13.out.still mm
      clear mm k0 k1 k2 k3 x0 x1 x2 x3 x4 x5 x6 z0 z1 z2 z3 z4 z5
      have k0 := HC14.out.cw0
      have k1 := HC14.out.cw1
      have k2 := HC14.out.cw2
      have k3 := HC14.out.cw3
      have x0 := HC14.out.x.c0
      have x1 := HC14.out.x.c1
      have x2 := HC14.out.x.c2
      have x3 := HC14.out.x.c3
      have x4 := HC14.out.x.c4
      have x5 := HC14.out.x.c5
      have x6 := HC14.out.x.c6
      rw [HC14.out.xn] at x0 x3 x4
      go_wp2_with fail
      refine (HC14.out.holds hl).mono ?_
      rintro e w15 ⟨rfl, hc⟩
      have HC15 : Hid (LC w L S2 S2 X wb xb sb so N w15) := hc
      clear hc k0 k1 k2 k3 x0 x1 x2 x3 x4 x5 x6
      clear HB13
      go_wp2
      go_ret
      exact ⟨rfl, HC15.out.below⟩
    · go_wp2_with fail
      refine (newsFrom_any (cap := cap) HC12.out.x HC12.out.sp HC12.out.xn hi hl HC12.out.xsb).mono ?_
      rintro e w13 ⟨rfl, hx7, mx7⟩
      have HC13 : Hid (LC w L S2 S2 X wb xb sb so N w13) := by
        have e := HC12.out.want mx7 hx7
        rw [show newsS L ({ S1 with failures := f3, failing := g3 } : St) i = S2 from HES2.out] at e
        exact e
      have HB13 : Hid _ := HC12.out.recWant mx7 HB12.out
      clear hx7 mx7 HB12
      have k0 := HC13.out.cw0
      have k1 := HC13.out.cw1
      have k2 := HC13.out.cw2
      have k3 := HC13.out.cw3
      have x0 := HC13.out.x.c0
      have x1 := HC13.out.x.c1
      have x2 := HC13.out.x.c2
      have x3 := HC13.out.x.c3
      have x4 := HC13.out.x.c4
      have x5 := HC13.out.x.c5
      have x6 := HC13.out.x.c6
      rw [HC13.out.xn] at x0 x3 x4
      have z0 := cell_of HB13.out (k := 0) rfl
      have z1 := cell_of HB13.out (k := 1) rfl
      have z2 := cell_of HB13.out (k := 2) rfl
      have z3 := cell_of HB13.out (k := 3) rfl
      have z4 := cell_of HB13.out (k := 4) rfl
      have z5 := cell_of HB13.out (k := 5) rfl
      go_wp2_with fail
      refine (HC13.out.recIs HBBS2.out).mono ?_
      rintro e w14 ⟨rfl, mm⟩
      have HC14 : Hid (LC w L S2 S2 X wb xb sb so N w14) := HC13.out.still mm
      clear mm k0 k1 k2 k3 x0 x1 x2 x3 x4 x5 x6 z0 z1 z2 z3 z4 z5
      have k0 := HC14.out.cw0
      have k1 := HC14.out.cw1
      have k2 := HC14.out.cw2
      have k3 := HC14.out.cw3
      have x0 := HC14.out.x.c0
      have x1 := HC14.out.x.c1
      have x2 := HC14.out.x.c2
      have x3 := HC14.out.x.c3
      have x4 := HC14.out.x.c4
      have x5 := HC14.out.x.c5
      have x6 := HC14.out.x.c6
      rw [HC14.out.xn] at x0 x3 x4
      go_wp2_with fail
      refine (HC14.out.holds hl).mono ?_
      rintro e w15 ⟨rfl, hc⟩
      have HC15 : Hid (LC w L S2 S2 X wb xb sb so N w15) := hc
      clear hc k0 k1 k2 k3 x0 x1 x2 x3 x4 x5 x6
      clear HB13
      go_wp2
      go_ret
      exact ⟨rfl, HC15.out.below⟩

theorem news_walk (peer : ByteArray) (a : Option Addr) (len cap : Nat) (i : Int) (d f : Int) (g : Bool) (f2 : Int) (g2 r1 : Bool) (f3 : Int) (g3 r2 : Bool) (w : World) (hp : peer.size ≤ maxLen) (hs : IsSpecs w a len) :
    Calls Try.prog 9 #[.string peer, .slice a len cap, .int .i64 i, .int .i64 d, .int .i64 f, .bool g, .int .i64 f2, .bool g2, .bool r1, .int .i64 f3, .bool g3, .bool r2] w fun e w' => e = .returned (.bool true) ∧ Below w.heap.size w w' := by
  obtain ⟨hl, hs⟩ := hs
  by_cases h1 : 65536 < peer.size ∨ 65536 < len
  · refine (news_long peer a len cap i d f g f2 g2 r1 f3 g3 r2 w hp hl h1).mono ?_
    rintro e w' ⟨rfl, rfl⟩
    exact ⟨rfl, Below.refl _ _⟩
  · by_cases h2 : Shape len i d (-1)
    · rcases hs with rfl | ⟨sb, so, F, N, rfl, hs⟩
      · have := h2.1; omega
      · obtain ⟨i, rfl⟩ := Int.eq_ofNat_of_zero_le h2.2.1
        exact news_main peer sb so len cap F N i d f g f2 g2 r1 f3 g3 r2 w (by omega) (by omega) hs h2
    · refine (news_shape peer a len cap i d f g f2 g2 r1 f3 g3 r2 w (by omega) (by omega) h2).mono ?_
      rintro e w' ⟨rfl, rfl⟩
      exact ⟨rfl, Below.refl _ _⟩

end Go.Proofs.Qxb6616570a
