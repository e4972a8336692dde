/- FnEndDialOnlyByTheDialer: the walk. -/
import Derived.Test.Qxb6616570aLaw2
import Derived.Test.Qxb6616570aOpen
set_option linter.unusedSimpArgs false
set_option linter.unusedVariables false
namespace Go.Proofs.Qxb6616570a
open Go.RowKit

set_option maxRecDepth 100000 in
set_option maxHeartbeats 2000000 in
theorem only_long (peer : ByteArray) (a : Option Addr) (len cap : Nat) (i : Int) (d o f : Int) (g : Bool) (w : World) (hp : peer.size ≤ maxLen) (hl : len ≤ maxLen) (h : 65536 < peer.size ∨ 65536 < len) :
    Calls Try.prog 8 #[.string peer, .slice a len cap, .int .i64 i, .int .i64 d, .int .i64 o, .int .i64 f, .bool g] w fun e w' => e = .returned (.bool true) ∧ w' = w := by
  unfold maxLen at hp hl
  go_enter Try.func8, Try.ntmps8
  go_wp2
  all_goals (go_ret; exact ⟨rfl, rfl⟩)

set_option maxRecDepth 100000 in
set_option maxHeartbeats 2000000 in
theorem only_shape (peer : ByteArray) (a : Option Addr) (len cap : Nat) (i : Int) (d o f : Int) (g : Bool) (w : World) (hp : peer.size ≤ 65536) (hl : len ≤ 65536) (h : ¬ Shape len i d o) :
    Calls Try.prog 8 #[.string peer, .slice a len cap, .int .i64 i, .int .i64 d, .int .i64 o, .int .i64 f, .bool g] w fun e w' => e = .returned (.bool true) ∧ w' = w := by
  have H : Hid (¬ Shape len i d o) := h
  clear h
  go_enter Try.func8, Try.ntmps8
  go_wp2_with (first | (go_at_call 25; go_in) | (go_at_call 11; refine (shapeOK_false _ _ _ _ _ H.out).mono ?_; rintro e w' ⟨rfl, rfl⟩))
  all_goals (go_ret; exact ⟨rfl, rfl⟩)

set_option maxRecDepth 100000 in
set_option maxHeartbeats 2000000 in
theorem only_skip (peer : ByteArray) (a : Option Addr) (len cap : Nat) (i : Int) (d o f : Int) (g : Bool) (w : World) (hp : peer.size ≤ 65536) (hl : len ≤ 65536) (h : Shape len i d o) (hd : d < 0 ∨ d = i) :
    Calls Try.prog 8 #[.string peer, .slice a len cap, .int .i64 i, .int .i64 d, .int .i64 o, .int .i64 f, .bool g] w fun e w' => e = .returned (.bool true) ∧ w' = w := by
  have H : Hid (Shape len i d o) := h
  clear h
  rcases hd with hd | hd
  · go_enter Try.func8, Try.ntmps8
    go_wp2_with (first | (go_at_call 25; go_in) | (go_at_call 11; refine (shapeOK_true _ _ _ _ _ H.out).mono ?_; rintro e w' ⟨rfl, hw⟩; obtain rfl := hw.symm))
    all_goals (go_ret; exact ⟨rfl, rfl⟩)
  · have q5 : (d == i) = true := by simp [hd]
    clear hd
    go_enter Try.func8, Try.ntmps8
    go_wp2_with (first | (go_at_call 25; go_in) | (go_at_call 11; refine (shapeOK_true _ _ _ _ _ H.out).mono ?_; rintro e w' ⟨rfl, hw⟩; obtain rfl := hw.symm))
    all_goals (go_ret; exact ⟨rfl, rfl⟩)

set_option maxRecDepth 100000 in
set_option maxHeartbeats 4000000 in
theorem only_main (peer : ByteArray) (sb so len cap : Nat) (F N : Nat → Bool) (i d : Nat) (o f : Int) (g : Bool) (w : World) (hp : peer.size ≤ 65536) (hl : len ≤ 65536) (hs : Specs w sb so len F N) (h : Shape len i d o) (q5 : ((d : Int) == (i : Int)) = false) :
    Calls Try.prog 8 #[.string peer, .slice (some ⟨sb, so, none⟩) len cap, .int .i64 i, .int .i64 d, .int .i64 o, .int .i64 f, .bool g] w fun e w' => e = .returned (.bool true) ∧ Below w.heap.size w w' := by
  have HSh : Hid (Shape len i d o) := h
  obtain ⟨h1, h2, h3, h4, h5, h6, h7, h8⟩ := h
  have HS : Hid (Specs w sb so len F N) := hs
  clear h8 hs
  go_enter Try.func8, Try.ntmps8
  go_wp2_with (first | (go_at_call 25; go_in) | (go_at_call 11; refine (shapeOK_true _ _ _ _ _ HSh.out).mono ?_; rintro e w' ⟨rfl, hw⟩; obtain rfl := hw.symm))
  refine (build_any HS.out hl peer d o f g h4 h5 h6 h7).mono ?_
  rintro e w1 ⟨L, hn, hpe, hF, hb, rfl, hh, m1⟩
  subst hn hpe hF
  have HB : Hid (L.base = w.heap.size ∧ Hold L (freshS N d o f g L.n) w1 ∧ Mod (fun _ => False) w w1) := ⟨hb, hh, m1⟩
  clear hb hh m1
  go_wp2_with fail
  have hs1 := HS.out.mod (HB.out.2.2.alloc (.cells #[.pointer (some ⟨L.h, 0, none⟩), .pointer (some ⟨L.r, 0, none⟩), .slice (some ⟨L.pb, 0, none⟩) L.n L.n, .slice (some ⟨L.eb, 0, none⟩) L.n L.n] 30)) id
  refine (fresh_any hs1 hl d o f g).mono ?_
  rintro e w2 ⟨X, xn, b1, b2, b3, rfl, hx, m2⟩
  rw [World.size_alloc] at b1 b2 b3
  have HX : Hid (X.n = L.n ∧ w1.heap.size + 1 ≤ X.kb ∧ w1.heap.size + 1 ≤ X.ob ∧ w1.heap.size + 1 ≤ X.nb ∧ XArr X (freshS N d o f g L.n) w2 ∧ Mod (fun _ => False) (w1.alloc (.cells #[.pointer (some ⟨L.h, 0, none⟩), .pointer (some ⟨L.r, 0, none⟩), .slice (some ⟨L.pb, 0, none⟩) L.n L.n, .slice (some ⟨L.eb, 0, none⟩) L.n L.n] 30)) w2) := ⟨xn, b1, b2, b3, hx, m2⟩
  clear hs1 b1 b2 b3 hx m2
  unfold XLay.xC
  rw [xn]
  clear xn
  go_upto_region 9 with fail
  have HC := LC.start HS.out HB.out.1 HB.out.2.1 HB.out.2.2 HX.out.2.2.2.2.1 HX.out.1 HX.out.2.1 HX.out.2.2.1 HX.out.2.2.2.1 HX.out.2.2.2.2.2
  have HS0 : Hid ((freshS N d o f g L.n).dialer = d ∧ (freshS N d o f g L.n).offer = o ∧ ∀ j, j < L.n → (freshS N d o f g L.n).kept j = true) := ⟨rfl, rfl, fun j hj => by simp [freshS]; omega⟩
  clear HX HB HS
  generalize w2.alloc _ = w3 at HC ⊢
  generalize w1.heap.size = wb at HC ⊢
  generalize w2.heap.size = xb at HC ⊢
  generalize freshS N d o f g L.n = S0 at HC HS0 ⊢
  have hi : i < L.n := by omega
  have HC3 : Hid (LC w L S0 S0 X wb xb sb so N w3) := HC
  have q2 : (0 : Int) ≤ (i : Int) := by omega
  clear HC
  have hd : d < L.n := by omega
  have qd : (0 : Int) ≤ (d : Int) := by omega
  have HD : Hid (S0.dialer = (d : Int) ∧ S0.offer < L.n) := ⟨HS0.out.1, by rw [HS0.out.2.1]; exact h7⟩
  generalize hS9 : endDialS L S0 d = S9
  have HS9 : Hid (endDialS L S0 d = S9) := hS9
  have HK9 : Hid (∀ j, j < L.n → S9.kept j = true) := by show ∀ j, j < L.n → _ = true; rw [← hS9, endDialS_kept]; exact HS0.out.2.2
  have HD9 : Hid (S9.dialer = -1) := by show _ = _; rw [← hS9]; exact endDialS_dialer HS0.out.1
  generalize hbb : decide (0 ≤ S9.dialer) = bb
  have HBB : Hid (decide (0 ≤ S9.dialer) = bb) := hbb
  generalize hbb0 : decide (0 ≤ S0.dialer) = bb0
  have HBB0 : Hid (decide (0 ≤ S0.dialer) = bb0) := hbb0
  clear hS9 hbb hbb0
  have HNE : Hid ((d : Int) ≠ (i : Int)) := by show _ ≠ _; intro e; rw [e] at q5; simp at q5
  have HI0 : Hid (endDialS L S0 i = S0) := endDialS_no (by rw [HS0.out.1]; exact HNE.out)
  have HI9 : Hid (endDialS L S9 i = S9) := endDialS_no (by rw [HD9.out]; omega)
  have c3 := HC3.out.cw3
  have ce := HC3.out.ceb hi
  go_wp2_with fail
  refine (endDial_rec HC3.out.hold hi (HS0.out.2.2 i hi) HI0.out HBB0.out).mono ?_
  rintro e w4 ⟨rfl, hh, mm⟩
  have HC4 : Hid (LC w L S0 S0 X wb xb sb so N w4) := HC3.out.hist mm hh
  clear hh mm c3 ce
  go_upto_region 10 with fail
  have HC5 : Hid (LC w L S0 S0 X wb xb sb so N (w4.alloc (.cells #[.int .i64 S0.failures, .int .u64 0, .int .i64 0, .pointer none, .bool S0.failing, .bool bb0] 45))) := HC4.out.still ((Mod.refl _ _).alloc _)
  have HB5 : Hid ((w4.alloc (.cells #[.int .i64 S0.failures, .int .u64 0, .int .i64 0, .pointer none, .bool S0.failing, .bool bb0] 45)).heap[w4.heap.size]? = some (.cells #[.int .i64 S0.failures, .int .u64 0, .int .i64 0, .pointer none, .bool S0.failing, .bool bb0] 45)) := heap_alloc_new w4 _
  generalize w4.alloc (.cells #[.int .i64 S0.failures, .int .u64 0, .int .i64 0, .pointer none, .bool S0.failing, .bool bb0] 45) = w5 at HC5 HB5 ⊢
  generalize w4.heap.size = ra at HB5 ⊢
  have k0 := HC5.out.cw0
  have k1 := HC5.out.cw1
  have k2 := HC5.out.cw2
  have k3 := HC5.out.cw3
  have x0 := HC5.out.x.c0
  have x1 := HC5.out.x.c1
  have x2 := HC5.out.x.c2
  have x3 := HC5.out.x.c3
  have x4 := HC5.out.x.c4
  have x5 := HC5.out.x.c5
  have x6 := HC5.out.x.c6
  rw [HC5.out.xn] at x0 x3 x4
  have z0 := cell_of HB5.out (k := 0) rfl
  have z1 := cell_of HB5.out (k := 1) rfl
  have z2 := cell_of HB5.out (k := 2) rfl
  have z3 := cell_of HB5.out (k := 3) rfl
  have z4 := cell_of HB5.out (k := 4) rfl
  have z5 := cell_of HB5.out (k := 5) rfl
  go_wp2_with fail
  refine (HC5.out.recIs HBB0.out).mono ?_
  rintro e w6 ⟨rfl, mm⟩
  have HC6 : Hid (LC w L S0 S0 X wb xb sb so N w6) := HC5.out.still mm
  clear mm k0 k1 k2 k3 x0 x1 x2 x3 x4 x5 x6 z0 z1 z2 z3 z4 z5
  have k0 := HC6.out.cw0
  have k1 := HC6.out.cw1
  have k2 := HC6.out.cw2
  have k3 := HC6.out.cw3
  have x0 := HC6.out.x.c0
  have x1 := HC6.out.x.c1
  have x2 := HC6.out.x.c2
  have x3 := HC6.out.x.c3
  have x4 := HC6.out.x.c4
  have x5 := HC6.out.x.c5
  have x6 := HC6.out.x.c6
  rw [HC6.out.xn] at x0 x3 x4
  go_wp2_with fail
  refine (HC6.out.holds hl).mono ?_
  rintro e w7 ⟨rfl, hc⟩
  have HC7 : Hid (LC w L S0 S0 X wb xb sb so N w7) := hc
  clear hc k0 k1 k2 k3 x0 x1 x2 x3 x4 x5 x6
  clear HB5
  have c3 := HC7.out.cw3
  have ce := HC7.out.ceb hd
  go_wp2_with fail
  refine (endDial_rec HC7.out.hold hd (HS0.out.2.2 d hd) HS9.out HBB.out).mono ?_
  rintro e w8 ⟨rfl, hh, mm⟩
  have HC8 : Hid (LC w L S9 S0 X wb xb sb so N w8) := HC7.out.hist mm hh
  clear hh mm c3 ce
  go_upto_region 13 with fail
  have HC9 : Hid (LC w L S9 S0 X wb xb sb so N (w8.alloc (.cells #[.int .i64 S9.failures, .int .u64 0, .int .i64 0, .pointer none, .bool S9.failing, .bool bb] 45))) := HC8.out.still ((Mod.refl _ _).alloc _)
  have HB9 : Hid ((w8.alloc (.cells #[.int .i64 S9.failures, .int .u64 0, .int .i64 0, .pointer none, .bool S9.failing, .bool bb] 45)).heap[w8.heap.size]? = some (.cells #[.int .i64 S9.failures, .int .u64 0, .int .i64 0, .pointer none, .bool S9.failing, .bool bb] 45)) := heap_alloc_new w8 _
  generalize w8.alloc (.cells #[.int .i64 S9.failures, .int .u64 0, .int .i64 0, .pointer none, .bool S9.failing, .bool bb] 45) = w9 at HC9 HB9 ⊢
  generalize w8.heap.size = rb at HB9 ⊢
  go_wp2_with fail
  refine (endBy_any HC9.out.x (by rw [HC9.out.xn]; exact hd) HD.out.1 (by rw [HC9.out.xn]; exact HD.out.2)).mono ?_
  rintro e w10 ⟨rfl, hx6, mx6⟩
  have HC10 : Hid (LC w L S9 (endS S0 d) X wb xb sb so N w10) := HC9.out.want mx6 hx6
  have HB10 : Hid _ := HC9.out.recWant mx6 HB9.out
  clear hx6 mx6 HB9
  go_wp2_with fail
  refine (newsFrom_any (cap := cap) HC10.out.x HC10.out.sp HC10.out.xn hd hl HC10.out.xsb).mono ?_
  rintro e w11 ⟨rfl, hx7, mx7⟩
  have HC11 : Hid (LC w L S9 S9 X wb xb sb so N w11) := by
    have e := HC10.out.want mx7 hx7
    rw [← endDialS_yes HD.out.1, HS9.out] at e
    exact e
  have HB11 : Hid _ := HC10.out.recWant mx7 HB10.out
  clear hx7 mx7 HB10
  have k0 := HC11.out.cw0
  have k1 := HC11.out.cw1
  have k2 := HC11.out.cw2
  have k3 := HC11.out.cw3
  have x0 := HC11.out.x.c0
  have x1 := HC11.out.x.c1
  have x2 := HC11.out.x.c2
  have x3 := HC11.out.x.c3
  have x4 := HC11.out.x.c4
  have x5 := HC11.out.x.c5
  have x6 := HC11.out.x.c6
  rw [HC11.out.xn] at x0 x3 x4
  have z0 := cell_of HB11.out (k := 0) rfl
  have z1 := cell_of HB11.out (k := 1) rfl
  have z2 := cell_of HB11.out (k := 2) rfl
  have z3 := cell_of HB11.out (k := 3) rfl
  have z4 := cell_of HB11.out (k := 4) rfl
  have z5 := cell_of HB11.out (k := 5) rfl
  go_wp2_with fail
  refine (HC11.out.recIs HBB.out).mono ?_
  rintro e w12 ⟨rfl, mm⟩
  have HC12 : Hid (LC w L S9 S9 X wb xb sb so N w12) := HC11.out.still mm
  clear mm k0 k1 k2 k3 x0 x1 x2 x3 x4 x5 x6 z0 z1 z2 z3 z4 z5
  have k0 := HC12.out.cw0
  have k1 := HC12.out.cw1
  have k2 := HC12.out.cw2
  have k3 := HC12.out.cw3
  have x0 := HC12.out.x.c0
  have x1 := HC12.out.x.c1
  have x2 := HC12.out.x.c2
  have x3 := HC12.out.x.c3
  have x4 := HC12.out.x.c4
  have x5 := HC12.out.x.c5
  have x6 := HC12.out.x.c6
  rw [HC12.out.xn] at x0 x3 x4
  go_wp2_with fail
  refine (HC12.out.holds hl).mono ?_
  rintro e w13 ⟨rfl, hc⟩
  have HC13 : Hid (LC w L S9 S9 X wb xb sb so N w13) := hc
  clear hc k0 k1 k2 k3 x0 x1 x2 x3 x4 x5 x6
  clear HB11
  have c3 := HC13.out.cw3
  have ce := HC13.out.ceb hi
  go_wp2_with fail
  refine (endDial_rec HC13.out.hold hi (HK9.out i hi) HI9.out HBB.out).mono ?_
  rintro e w14 ⟨rfl, hh, mm⟩
  have HC14 : Hid (LC w L S9 S9 X wb xb sb so N w14) := HC13.out.hist mm hh
  clear hh mm c3 ce
  go_upto_region 18 with fail
  have HC15 : Hid (LC w L S9 S9 X wb xb sb so N (w14.alloc (.cells #[.int .i64 S9.failures, .int .u64 0, .int .i64 0, .pointer none, .bool S9.failing, .bool bb] 45))) := HC14.out.still ((Mod.refl _ _).alloc _)
  have HB15 : Hid ((w14.alloc (.cells #[.int .i64 S9.failures, .int .u64 0, .int .i64 0, .pointer none, .bool S9.failing, .bool bb] 45)).heap[w14.heap.size]? = some (.cells #[.int .i64 S9.failures, .int .u64 0, .int .i64 0, .pointer none, .bool S9.failing, .bool bb] 45)) := heap_alloc_new w14 _
  generalize w14.alloc (.cells #[.int .i64 S9.failures, .int .u64 0, .int .i64 0, .pointer none, .bool S9.failing, .bool bb] 45) = w15 at HC15 HB15 ⊢
  generalize w14.heap.size = rc at HB15 ⊢
  have k0 := HC15.out.cw0
  have k1 := HC15.out.cw1
  have k2 := HC15.out.cw2
  have k3 := HC15.out.cw3
  have x0 := HC15.out.x.c0
  have x1 := HC15.out.x.c1
  have x2 := HC15.out.x.c2
  have x3 := HC15.out.x.c3
  have x4 := HC15.out.x.c4
  have x5 := HC15.out.x.c5
  have x6 := HC15.out.x.c6
  rw [HC15.out.xn] at x0 x3 x4
  have z0 := cell_of HB15.out (k := 0) rfl
  have z1 := cell_of HB15.out (k := 1) rfl
  have z2 := cell_of HB15.out (k := 2) rfl
  have z3 := cell_of HB15.out (k := 3) rfl
  have z4 := cell_of HB15.out (k := 4) rfl
  have z5 := cell_of HB15.out (k := 5) rfl
  go_wp2_with fail
  refine (HC15.out.recIs HBB.out).mono ?_
  rintro e w16 ⟨rfl, mm⟩
  have HC16 : Hid (LC w L S9 S9 X wb xb sb so N w16) := HC15.out.still mm
  clear mm k0 k1 k2 k3 x0 x1 x2 x3 x4 x5 x6 z0 z1 z2 z3 z4 z5
  have k0 := HC16.out.cw0
  have k1 := HC16.out.cw1
  have k2 := HC16.out.cw2
  have k3 := HC16.out.cw3
  have x0 := HC16.out.x.c0
  have x1 := HC16.out.x.c1
  have x2 := HC16.out.x.c2
  have x3 := HC16.out.x.c3
  have x4 := HC16.out.x.c4
  have x5 := HC16.out.x.c5
  have x6 := HC16.out.x.c6
  rw [HC16.out.xn] at x0 x3 x4
  go_wp2_with fail
  refine (HC16.out.holds hl).mono ?_
  rintro e w17 ⟨rfl, hc⟩
  have HC17 : Hid (LC w L S9 S9 X wb xb sb so N w17) := hc
  clear hc k0 k1 k2 k3 x0 x1 x2 x3 x4 x5 x6
  go_wp2
  go_ret
  exact ⟨rfl, HC17.out.below⟩

theorem only_walk (peer : ByteArray) (a : Option Addr) (len cap : Nat) (i : Int) (d o f : Int) (g : Bool) (w : World) (hp : peer.size ≤ maxLen) (hs : IsSpecs w a len) :
    Calls Try.prog 8 #[.string peer, .slice a len cap, .int .i64 i, .int .i64 d, .int .i64 o, .int .i64 f, .bool g] w fun e w' => e = .returned (.bool true) ∧ Below w.heap.size w w' := by
  obtain ⟨hl, hs⟩ := hs
  by_cases h1 : 65536 < peer.size ∨ 65536 < len
  · refine (only_long peer a len cap i d o f g w hp hl h1).mono ?_
    rintro e w' ⟨rfl, rfl⟩
    exact ⟨rfl, Below.refl _ _⟩
  · by_cases h2 : Shape len i d o
    · rcases hs with rfl | ⟨sb, so, F, N, rfl, hs⟩
      · have := h2.1; omega
      · obtain ⟨i, rfl⟩ := Int.eq_ofNat_of_zero_le h2.2.1
        by_cases h3 : d < 0 ∨ d = (i : Int)
        · refine (only_skip peer _ len cap i d o f g w (by omega) (by omega) h2 h3).mono ?_
          rintro e w' ⟨rfl, rfl⟩
          exact ⟨rfl, Below.refl _ _⟩
        obtain ⟨d, rfl⟩ := Int.eq_ofNat_of_zero_le (show 0 ≤ d by omega)
        exact only_main peer sb so len cap F N i d o f g w (by omega) (by omega) hs h2 (by simp; omega)
    · refine (only_shape peer a len cap i d o f g w (by omega) (by omega) h2).mono ?_
      rintro e w' ⟨rfl, rfl⟩
      exact ⟨rfl, Below.refl _ _⟩

end Go.Proofs.Qxb6616570a
