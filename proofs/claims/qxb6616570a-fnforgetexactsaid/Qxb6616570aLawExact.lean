/- FnForgetExact: the walk. -/
import Derived.Test.Qxb6616570aLaw
import Derived.Test.Qxb6616570aOpen
set_option linter.unusedSimpArgs false
set_option linter.unusedVariables false
namespace Go.Proofs.Qxb6616570a
open Go.RowKit

set_option maxRecDepth 100000 in
set_option maxHeartbeats 2000000 in
theorem exact_long (peer : ByteArray) (a : Option Addr) (len cap : Nat) (i d o f : Int) (g u : Bool) (w : World) (hp : peer.size ≤ maxLen) (hl : len ≤ maxLen) (h : 65536 < peer.size ∨ 65536 < len) :
    Calls Try.prog 5 #[.string peer, .slice a len cap, .int .i64 i, .int .i64 d, .int .i64 o, .int .i64 f, .bool g, .bool u] w fun e w' => e = .returned (.bool true) ∧ w' = w := by
  unfold maxLen at hp hl
  go_enter Try.func5, Try.ntmps5
  go_wp2
  all_goals (go_ret; exact ⟨rfl, rfl⟩)

set_option maxRecDepth 100000 in
set_option maxHeartbeats 2000000 in
theorem exact_shape (peer : ByteArray) (a : Option Addr) (len cap : Nat) (i d o f : Int) (g u : Bool) (w : World) (hp : peer.size ≤ 65536) (hl : len ≤ 65536) (h : ¬ Shape len i d o) :
    Calls Try.prog 5 #[.string peer, .slice a len cap, .int .i64 i, .int .i64 d, .int .i64 o, .int .i64 f, .bool g, .bool u] w fun e w' => e = .returned (.bool true) ∧ w' = w := by
  have H : Hid (¬ Shape len i d o) := h
  clear h
  go_enter Try.func5, Try.ntmps5
  go_wp2_with (first | (go_at_call 21; go_in) | (go_at_call 11; refine (shapeOK_false _ _ _ _ _ H.out).mono ?_; rintro e w' ⟨rfl, rfl⟩))
  all_goals (go_ret; exact ⟨rfl, rfl⟩)

set_option maxRecDepth 100000 in
set_option maxHeartbeats 4000000 in
theorem exact_main (peer : ByteArray) (sb so len cap : Nat) (F N : Nat → Bool) (i : Nat) (d o f : Int) (g u : Bool) (w : World) (hp : peer.size ≤ 65536) (hl : len ≤ 65536) (hs : Specs w sb so len F N) (h : Shape len i d o) :
    Calls Try.prog 5 #[.string peer, .slice (some ⟨sb, so, none⟩) len cap, .int .i64 i, .int .i64 d, .int .i64 o, .int .i64 f, .bool g, .bool u] w fun e w' => e = .returned (.bool true) ∧ Below w.heap.size w w' := by
  have HSh : Hid (Shape len i d o) := h
  obtain ⟨h1, h2, h3, h4, h5, h6, h7, h8⟩ := h
  have HS : Hid (Specs w sb so len F N) := hs
  clear h8 hs
  go_enter Try.func5, Try.ntmps5
  go_wp2_with (first | (go_at_call 21; go_in) | (go_at_call 11; refine (shapeOK_true _ _ _ _ _ HSh.out).mono ?_; rintro e w' ⟨rfl, hw⟩; obtain rfl := hw.symm))
  refine (build_any HS.out hl peer d o f g h4 h5 h6 h7).mono ?_
  rintro e w1 ⟨L, hn, hpe, hF, hb, rfl, hh, m1⟩
  subst hn hpe hF
  have HB : Hid (L.base = w.heap.size ∧ Hold L (freshS N d o f g L.n) w1 ∧ Mod (fun _ => False) w w1) := ⟨hb, hh, m1⟩
  clear hb hh m1
  go_wp2_with fail
  have hs1 := HS.out.mod (HB.out.2.2.alloc (.cells #[.pointer (some ⟨L.h, 0, none⟩), .pointer (some ⟨L.r, 0, none⟩), .slice (some ⟨L.pb, 0, none⟩) L.n L.n, .slice (some ⟨L.eb, 0, none⟩) L.n L.n] 30)) id
  refine (fresh_any hs1 hl d o f g).mono ?_
  rintro e w2 ⟨X, xn, b1, b2, b3, rfl, hx, m2⟩
  rw [World.size_alloc] at b1 b2 b3
  have HX : Hid (X.n = L.n ∧ w1.heap.size + 1 ≤ X.kb ∧ w1.heap.size + 1 ≤ X.ob ∧ w1.heap.size + 1 ≤ X.nb ∧ XArr X (freshS N d o f g L.n) w2 ∧ Mod (fun _ => False) (w1.alloc (.cells #[.pointer (some ⟨L.h, 0, none⟩), .pointer (some ⟨L.r, 0, none⟩), .slice (some ⟨L.pb, 0, none⟩) L.n L.n, .slice (some ⟨L.eb, 0, none⟩) L.n L.n] 30)) w2) := ⟨xn, b1, b2, b3, hx, m2⟩
  clear hs1 b1 b2 b3 hx m2
  unfold XLay.xC
  rw [xn]
  clear xn
  go_upto_region 9 with fail
  have HC := LC.start HS.out HB.out.1 HB.out.2.1 HB.out.2.2 HX.out.2.2.2.2.1 HX.out.1 HX.out.2.1 HX.out.2.2.1 HX.out.2.2.2.1 HX.out.2.2.2.2.2
  have HS0 : Hid ((freshS N d o f g L.n).dialer = d ∧ (freshS N d o f g L.n).offer = o ∧ (freshS N d o f g L.n).kept i = true) := ⟨rfl, rfl, by simp [freshS]; omega⟩
  clear HX HB HS
  generalize w2.alloc _ = w3 at HC ⊢
  generalize w1.heap.size = wb at HC ⊢
  generalize w2.heap.size = xb at HC ⊢
  generalize freshS N d o f g L.n = S0 at HC HS0 ⊢
  have hi : i < L.n := by omega
  have HC' : Hid (LC w L S0 S0 X wb xb sb so N w3) := HC
  have c3 := HC.cw3
  have ce := HC.ceb hi
  have q2 : (0 : Int) ≤ (i : Int) := by omega
  clear HC
  by_cases hA : u = true ∧ 0 ≤ d
  · obtain ⟨rfl, hd⟩ := hA
    go_wp2_with fail
    refine (zzforget_no HC'.out.hold hi HS0.out.2.2 (by rw [HS0.out.1]; exact hd)).mono ?_
    rintro e w4 ⟨rfl, hh, mm⟩
    have HC2 : Hid (LC w L S0 S0 X wb xb sb so N w4) := HC'.out.hist mm hh
    clear hh mm c3 ce
    have k0 := HC2.out.cw0
    have k1 := HC2.out.cw1
    have k2 := HC2.out.cw2
    have k3 := HC2.out.cw3
    have x0 := HC2.out.x.c0
    have x1 := HC2.out.x.c1
    have x2 := HC2.out.x.c2
    have x3 := HC2.out.x.c3
    have x4 := HC2.out.x.c4
    have x5 := HC2.out.x.c5
    have x6 := HC2.out.x.c6
    rw [HC2.out.xn] at x0 x3 x4
    go_wp2_with fail
    refine (HC2.out.holds hl).mono ?_
    rintro e w5 ⟨rfl, hc5⟩
    have HC5 : Hid (LC w L S0 S0 X wb xb sb so N w5) := hc5
    clear hc5 k0 k1 k2 k3 x0 x1 x2 x3 x4 x5 x6
    go_wp2
    go_ret
    exact ⟨rfl, HC5.out.below⟩
  · have hA' : u = false ∨ d < 0 := by
      cases u
      · exact Or.inl rfl
      · exact Or.inr (by have : ¬ 0 ≤ d := fun h => hA ⟨rfl, h⟩; omega)
    clear hA
    have HU : Hid (u = false ∨ S0.dialer < 0) := by show _ ∨ _; rw [HS0.out.1]; exact hA'
    go_wp2_with fail
    refine (zzforget_yes HC'.out.hold hi HS0.out.2.2 u HU.out).mono ?_
    rintro e w4 ⟨rfl, hh, mm⟩
    have HC2 : Hid (LC w L (forgetS L S0 i) S0 X wb xb sb so N w4) := HC'.out.hist mm hh
    clear hh mm c3 ce
    have x0 := HC2.out.x.c0
    rw [HC2.out.xn] at x0
    have kk := HC2.out.x.arr.hk.cell (j := i) (by rw [HC2.out.xn]; exact hi)
    have kf := HC2.out.x.arr.hk.froz i
    have HA : Hid (u = false ∨ d < 0) := hA'
    clear hA'
    cases u
    · go_upto_region 13 with fail
      have HC3 : Hid (LC w L (forgetS L S0 i) { S0 with kept := upd S0.kept i false } X wb xb sb so N (w4.setCell ⟨X.kb, i, none⟩ (.bool false))) := HC2.out.setKept hi false
      clear x0 kk kf
      generalize w4.setCell ⟨X.kb, i, none⟩ (.bool false) = w5 at HC3 ⊢
      by_cases hdi : d = (i : Int)
      · have q5 : (d == (i : Int)) = true := by simp [hdi]
        have HD : Hid (S0.dialer = (i : Int) ∧ S0.offer < L.n) := ⟨by rw [HS0.out.1]; exact hdi, by rw [HS0.out.2.1]; exact h7⟩
        clear hdi
        go_wp2_with fail
        refine (endBy_any HC3.out.x (by rw [HC3.out.xn]; exact hi) HD.out.1 (by rw [HC3.out.xn]; exact HD.out.2)).mono ?_
        rintro e w6 ⟨rfl, hx6, mx6⟩
        have HC6 : Hid (LC w L (forgetS L S0 i) (endS { S0 with kept := upd S0.kept i false } i) X wb xb sb so N w6) := HC3.out.want mx6 hx6
        clear hx6 mx6
        go_wp2_with fail
        refine (newsFrom_any (cap := cap) HC6.out.x HC6.out.sp HC6.out.xn hi hl HC6.out.xsb).mono ?_
        rintro e w7 ⟨rfl, hx7, mx7⟩
        have HC7 : Hid (LC w L (forgetS L S0 i) (forgetS L S0 i) X wb xb sb so N w7) := by
          have e := HC6.out.want mx7 hx7
          have e2 : newsS L (endS { S0 with kept := upd S0.kept i false } i) i = forgetS L S0 i := by unfold forgetS; rw [if_pos HD.out.1]
          rw [e2] at e
          exact e
        clear hx7 mx7
        generalize forgetS L S0 i = S9 at HC7
        have k0 := HC7.out.cw0
        have k1 := HC7.out.cw1
        have k2 := HC7.out.cw2
        have k3 := HC7.out.cw3
        have x0 := HC7.out.x.c0
        have x1 := HC7.out.x.c1
        have x2 := HC7.out.x.c2
        have x3 := HC7.out.x.c3
        have x4 := HC7.out.x.c4
        have x5 := HC7.out.x.c5
        have x6 := HC7.out.x.c6
        rw [HC7.out.xn] at x0 x3 x4
        go_wp2_with fail
        refine (HC7.out.holds hl).mono ?_
        rintro e w8 ⟨rfl, hc8⟩
        have HC8 : Hid (LC w L S9 S9 X wb xb sb so N w8) := hc8
        clear hc8 k0 k1 k2 k3 x0 x1 x2 x3 x4 x5 x6
        go_wp2
        go_ret
        exact ⟨rfl, HC8.out.below⟩
      · have q5 : (d == (i : Int)) = false := by simp [hdi]
        have HC7 : Hid (LC w L (forgetS L S0 i) (forgetS L S0 i) X wb xb sb so N w5) := by
          have e := HC3.out
          have e2 : forgetS L S0 i = { S0 with kept := upd S0.kept i false } := by unfold forgetS; rw [if_neg (by rw [HS0.out.1]; exact hdi)]
          rw [← e2] at e
          exact e
        clear hdi HC3
        generalize forgetS L S0 i = S9 at HC7
        have k0 := HC7.out.cw0
        have k1 := HC7.out.cw1
        have k2 := HC7.out.cw2
        have k3 := HC7.out.cw3
        have x0 := HC7.out.x.c0
        have x1 := HC7.out.x.c1
        have x2 := HC7.out.x.c2
        have x3 := HC7.out.x.c3
        have x4 := HC7.out.x.c4
        have x5 := HC7.out.x.c5
        have x6 := HC7.out.x.c6
        rw [HC7.out.xn] at x0 x3 x4
        go_wp2_with fail
        refine (HC7.out.holds hl).mono ?_
        rintro e w8 ⟨rfl, hc8⟩
        have HC8 : Hid (LC w L S9 S9 X wb xb sb so N w8) := hc8
        clear hc8 k0 k1 k2 k3 x0 x1 x2 x3 x4 x5 x6
        go_wp2
        go_ret
        exact ⟨rfl, HC8.out.below⟩
    · have hd0 : d < 0 := by rcases HA.out with h | h; cases h; exact h
      go_upto_region 13 with fail
      have HC3 : Hid (LC w L (forgetS L S0 i) { S0 with kept := upd S0.kept i false } X wb xb sb so N (w4.setCell ⟨X.kb, i, none⟩ (.bool false))) := HC2.out.setKept hi false
      clear x0 kk kf
      generalize w4.setCell ⟨X.kb, i, none⟩ (.bool false) = w5 at HC3 ⊢
      by_cases hdi : d = (i : Int)
      · have q5 : (d == (i : Int)) = true := by simp [hdi]
        have HD : Hid (S0.dialer = (i : Int) ∧ S0.offer < L.n) := ⟨by rw [HS0.out.1]; exact hdi, by rw [HS0.out.2.1]; exact h7⟩
        clear hdi
        go_wp2_with fail
        refine (endBy_any HC3.out.x (by rw [HC3.out.xn]; exact hi) HD.out.1 (by rw [HC3.out.xn]; exact HD.out.2)).mono ?_
        rintro e w6 ⟨rfl, hx6, mx6⟩
        have HC6 : Hid (LC w L (forgetS L S0 i) (endS { S0 with kept := upd S0.kept i false } i) X wb xb sb so N w6) := HC3.out.want mx6 hx6
        clear hx6 mx6
        go_wp2_with fail
        refine (newsFrom_any (cap := cap) HC6.out.x HC6.out.sp HC6.out.xn hi hl HC6.out.xsb).mono ?_
        rintro e w7 ⟨rfl, hx7, mx7⟩
        have HC7 : Hid (LC w L (forgetS L S0 i) (forgetS L S0 i) X wb xb sb so N w7) := by
          have e := HC6.out.want mx7 hx7
          have e2 : newsS L (endS { S0 with kept := upd S0.kept i false } i) i = forgetS L S0 i := by unfold forgetS; rw [if_pos HD.out.1]
          rw [e2] at e
          exact e
        clear hx7 mx7
        generalize forgetS L S0 i = S9 at HC7
        have k0 := HC7.out.cw0
        have k1 := HC7.out.cw1
        have k2 := HC7.out.cw2
        have k3 := HC7.out.cw3
        have x0 := HC7.out.x.c0
        have x1 := HC7.out.x.c1
        have x2 := HC7.out.x.c2
        have x3 := HC7.out.x.c3
        have x4 := HC7.out.x.c4
        have x5 := HC7.out.x.c5
        have x6 := HC7.out.x.c6
        rw [HC7.out.xn] at x0 x3 x4
        go_wp2_with fail
        refine (HC7.out.holds hl).mono ?_
        rintro e w8 ⟨rfl, hc8⟩
        have HC8 : Hid (LC w L S9 S9 X wb xb sb so N w8) := hc8
        clear hc8 k0 k1 k2 k3 x0 x1 x2 x3 x4 x5 x6
        go_wp2
        go_ret
        exact ⟨rfl, HC8.out.below⟩
      · have q5 : (d == (i : Int)) = false := by simp [hdi]
        have HC7 : Hid (LC w L (forgetS L S0 i) (forgetS L S0 i) X wb xb sb so N w5) := by
          have e := HC3.out
          have e2 : forgetS L S0 i = { S0 with kept := upd S0.kept i false } := by unfold forgetS; rw [if_neg (by rw [HS0.out.1]; exact hdi)]
          rw [← e2] at e
          exact e
        clear hdi HC3
        generalize forgetS L S0 i = S9 at HC7
        have k0 := HC7.out.cw0
        have k1 := HC7.out.cw1
        have k2 := HC7.out.cw2
        have k3 := HC7.out.cw3
        have x0 := HC7.out.x.c0
        have x1 := HC7.out.x.c1
        have x2 := HC7.out.x.c2
        have x3 := HC7.out.x.c3
        have x4 := HC7.out.x.c4
        have x5 := HC7.out.x.c5
        have x6 := HC7.out.x.c6
        rw [HC7.out.xn] at x0 x3 x4
        go_wp2_with fail
        refine (HC7.out.holds hl).mono ?_
        rintro e w8 ⟨rfl, hc8⟩
        have HC8 : Hid (LC w L S9 S9 X wb xb sb so N w8) := hc8
        clear hc8 k0 k1 k2 k3 x0 x1 x2 x3 x4 x5 x6
        go_wp2
        go_ret
        exact ⟨rfl, HC8.out.below⟩

theorem exact_walk (peer : ByteArray) (a : Option Addr) (len cap : Nat) (i d o f : Int) (g u : Bool) (w : World) (hp : peer.size ≤ maxLen) (hs : IsSpecs w a len) :
    Calls Try.prog 5 #[.string peer, .slice a len cap, .int .i64 i, .int .i64 d, .int .i64 o, .int .i64 f, .bool g, .bool u] w fun e w' => e = .returned (.bool true) ∧ Below w.heap.size w w' := by
  obtain ⟨hl, hs⟩ := hs
  by_cases h1 : 65536 < peer.size ∨ 65536 < len
  · refine (exact_long peer a len cap i d o f g u w hp hl h1).mono ?_
    rintro e w' ⟨rfl, rfl⟩
    exact ⟨rfl, Below.refl _ _⟩
  · by_cases h2 : Shape len i d o
    · rcases hs with rfl | ⟨sb, so, F, N, rfl, hs⟩
      · have := h2.1; omega
      · obtain ⟨i, rfl⟩ := Int.eq_ofNat_of_zero_le h2.2.1
        exact exact_main peer sb so len cap F N i d o f g u w (by omega) (by omega) hs h2
    · refine (exact_shape peer a len cap i d o f g u w (by omega) (by omega) h2).mono ?_
      rintro e w' ⟨rfl, rfl⟩
      exact ⟨rfl, Below.refl _ _⟩

end Go.Proofs.Qxb6616570a
