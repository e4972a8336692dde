/- FnForgetAllInRotation: the walk. -/
import Derived.Test.Qxb6616570aLaw
import Derived.Test.Qxb6616570aRotP
import Derived.Deep.RegionHeld3
import Derived.Deep.DrawnRows
import Derived.Test.Qxb6616570aOpen
set_option linter.unusedSimpArgs false
set_option linter.unusedVariables false
namespace Go.Proofs.Qxb6616570a
open Go.RowKit

set_option maxRecDepth 100000 in
set_option maxHeartbeats 2000000 in
theorem rot_w_long (peer : ByteArray) (a : Option Addr) (len cap : Nat) (i d o f : Int) (g : Bool) (w : World) (hp : peer.size ≤ maxLen) (hl : len ≤ maxLen) (h : 65536 < peer.size ∨ 4096 < len) :
    Calls Try.prog 6 #[.string peer, .slice a len cap, .int .i64 i, .int .i64 d, .int .i64 o, .int .i64 f, .bool g] w fun e w' => e = .returned (.bool true) ∧ w' = w := by
  unfold maxLen at hp hl
  go_enter Try.func6, Try.ntmps6
  go_wp2
  all_goals (go_ret; exact ⟨rfl, rfl⟩)

set_option maxRecDepth 100000 in
set_option maxHeartbeats 2000000 in
theorem rot_w_shape (peer : ByteArray) (a : Option Addr) (len cap : Nat) (i d o f : Int) (g : Bool) (w : World) (hp : peer.size ≤ 65536) (hl : len ≤ 4096) (h : ¬ Shape len i d o) :
    Calls Try.prog 6 #[.string peer, .slice a len cap, .int .i64 i, .int .i64 d, .int .i64 o, .int .i64 f, .bool g] w fun e w' => e = .returned (.bool true) ∧ w' = w := by
  have H : Hid (¬ Shape len i d o) := h
  clear h
  go_enter Try.func6, Try.ntmps6
  go_wp2_with (first | (go_at_call 23; go_in) | (go_at_call 11; refine (shapeOK_false _ _ _ _ _ H.out).mono ?_; rintro e w' ⟨rfl, rfl⟩))
  all_goals (go_ret; exact ⟨rfl, rfl⟩)

theorem rat_int (n i k : Nat) : ((i : Int) + (k : Int)) % (n : Int) = ((rat n i k : Nat) : Int) := by
  unfold rat; rw [Int.natCast_emod, Int.natCast_add]

set_option maxRecDepth 100000 in
set_option maxHeartbeats 4000000 in
theorem rot_w_main (peer : ByteArray) (sb so len cap : Nat) (F N : Nat → Bool) (i : Nat) (d o f : Int) (g : Bool) (w : World) (hp : peer.size ≤ 65536) (hl : len ≤ 4096) (hs : Specs w sb so len F N) (h : Shape len i d o) :
    Calls Try.prog 6 #[.string peer, .slice (some ⟨sb, so, none⟩) len cap, .int .i64 i, .int .i64 d, .int .i64 o, .int .i64 f, .bool g] w fun e w' => e = .returned (.bool true) ∧ Below w.heap.size w w' := by
  have HSh : Hid (Shape len i d o) := h
  obtain ⟨h1, h2, h3, h4, h5, h6, h7, h8⟩ := h
  have HS : Hid (Specs w sb so len F N) := hs
  clear h8 hs
  go_enter Try.func6, Try.ntmps6
  go_wp2_with (first | (go_at_call 23; go_in) | (go_at_call 11; refine (shapeOK_true _ _ _ _ _ HSh.out).mono ?_; rintro e w' ⟨rfl, hw⟩; obtain rfl := hw.symm))
  refine (build_any HS.out (by omega) peer d o f g h4 h5 h6 h7).mono ?_
  rintro e w1 ⟨L, hn, hpe, hF, hb, rfl, hh, m1⟩
  subst hn hpe hF
  have HB : Hid (L.base = w.heap.size ∧ Hold L (freshS N d o f g L.n) w1 ∧ Mod (fun _ => False) w w1) := ⟨hb, hh, m1⟩
  clear hb hh m1
  go_wp2_with fail
  have hs1 := HS.out.mod (HB.out.2.2.alloc (.cells #[.pointer (some ⟨L.h, 0, none⟩), .pointer (some ⟨L.r, 0, none⟩), .slice (some ⟨L.pb, 0, none⟩) L.n L.n, .slice (some ⟨L.eb, 0, none⟩) L.n L.n] 30)) id
  refine (fresh_any hs1 (by omega) d o f g).mono ?_
  rintro e w2 ⟨X, xn, b1, b2, b3, rfl, hx, m2⟩
  rw [World.size_alloc] at b1 b2 b3
  have HX : Hid (X.n = L.n ∧ w1.heap.size + 1 ≤ X.kb ∧ w1.heap.size + 1 ≤ X.ob ∧ w1.heap.size + 1 ≤ X.nb ∧ XArr X (freshS N d o f g L.n) w2 ∧ Mod (fun _ => False) (w1.alloc (.cells #[.pointer (some ⟨L.h, 0, none⟩), .pointer (some ⟨L.r, 0, none⟩), .slice (some ⟨L.pb, 0, none⟩) L.n L.n, .slice (some ⟨L.eb, 0, none⟩) L.n L.n] 30)) w2) := ⟨xn, b1, b2, b3, hx, m2⟩
  clear hs1 b1 b2 b3 hx m2
  unfold XLay.xC
  rw [xn]
  clear xn
  go_upto_region 10 with fail
  have HC := LC.start HS.out HB.out.1 HB.out.2.1 HB.out.2.2 HX.out.2.2.2.2.1 HX.out.1 HX.out.2.1 HX.out.2.2.1 HX.out.2.2.2.1 HX.out.2.2.2.2.2
  have HS0 : Hid ((freshS N d o f g L.n).dialer = d ∧ (freshS N d o f g L.n).offer = o ∧ (freshS N d o f g L.n).kept i = true) := ⟨rfl, rfl, by simp [freshS]; omega⟩
  clear HX HB HS
  generalize w2.alloc _ = w3 at HC ⊢
  generalize w1.heap.size = wb at HC ⊢
  generalize w2.heap.size = xb at HC ⊢
  obtain ⟨S0, hS0⟩ : ∃ S0, S0 = freshS N d o f g L.n := ⟨_, rfl⟩
  rw [← hS0] at HC HS0 ⊢
  have HE : Hid (S0 = freshS N d o f g L.n) := hS0
  clear hS0
  have hi : i < L.n := by omega
  have HC' : Hid (LC w L (rotS L N i d o f g 0) S0 X wb xb sb so N w3) := HC.hist (Mod.refl _ _) (HC.hold.same (by rw [HE.out]; exact rot_start L N i d o f g))
  clear HC HS0
  go_wp2_with fail
  go_loopg [18] (L.n + 1) (fun gg v wr => ∃ k : Nat, k ≤ L.n ∧ k + gg = L.n + 1 ∧ v = .int .i64 k ∧ LC w L (rotS L N i d o f g k) S0 X wb xb sb so N wr)
  case atStart => exact ⟨0, by omega, by omega, rfl, HC'.out⟩
  case round =>
    obtain ⟨k, hk, hgg, rfl, hc⟩ := hrel
    have HC1 : Hid (LC w L (rotS L N i d o f g k) S0 X wb xb sb so N wr) := hc
    clear hc HC'
    by_cases hlt : k < L.n
    · have he := rat_lt hi hlt
      have c3 := HC1.out.cw3
      have ce := HC1.out.ceb he
      have m1 : ((i : Int) + (k : Int)) % (L.n : Int) = ((rat L.n i k : Nat) : Int) := rat_int L.n i k
      have m2 : ((i : Int) + (k : Int)).tmod (L.n : Int) = ((rat L.n i k : Nat) : Int) := by rw [Int.tmod_eq_emod_of_nonneg (by omega)]; exact m1
      have q1 : (0 : Int) ≤ ((rat L.n i k : Nat) : Int) := by omega
      have q2 : ((rat L.n i k : Nat) : Int) < (L.n : Int) := by omega
      have q3 : ¬ (L.n : Int) = 0 := by omega
      have q4 : ¬ L.n = 0 := by omega
      have q5 : IntKind.i64.wrap ((i : Int) + (k : Int)) = (i : Int) + (k : Int) := by rw [IntKind.wrap_i64]; omega
      have HKe : Hid ((rotS L N i d o f g k).kept (rat L.n i k) = true) := by
        show _ = true
        rw [rot_kept, rpos_rat hi hlt]; simp
      go_upto_region 13 with fail
      go_region_held3 (fun w' => w'.cell? ⟨wb, 3, none⟩ = some (.slice (some ⟨L.eb, 0, none⟩) L.n L.n) ∧ w'.cell? ⟨L.eb, rat L.n i k, none⟩ = some (.pointer (some ⟨L.E (rat L.n i k), 0, none⟩)))
        (first | go_keep | exact ⟨(HC1.out.still ((Mod.refl _ _).drew) |>.hist mm hh).cw3, (HC1.out.still ((Mod.refl _ _).drew) |>.hist mm hh).ceb he⟩)
        (first | (go_at_call 22; refine (zzforget_yes (HC1.out.still ((Mod.refl _ _).drew)).hold he HKe.out false (Or.inl rfl)).mono ?_; rintro e w4 ⟨rfl, hh, mm⟩))
      have HC4 : Hid (LC w L (rotS L N i d o f g (k + 1)) S0 X wb xb sb so N w4) := by
        have e := ((HC1.out.still ((Mod.refl _ _).drew)).hist mm hh)
        exact e.hist (Mod.refl _ _) (e.hold.same (rot_step hi hlt h4 h5))
      clear mm hh c3 ce m1 m2 q1 q2
      go_wp2
      go_roundg (L.n - k)
      case measure => omega
      case rel => exact ⟨k + 1, by omega, by omega, by go_num, HC4.out⟩
    · obtain rfl : k = L.n := by omega
      go_wp2_with fail
      go_loopg [19] (L.n + 1) (fun gg v wr => ∃ j : Nat, j ≤ L.n ∧ j + gg = L.n + 1 ∧ v = .int .i64 j ∧ LC w L (rotS L N i d o f g L.n) { S0 with kept := kj S0.kept j } X wb xb sb so N wr)
      case atStart => exact ⟨0, by omega, by omega, rfl, by rw [kj_zero]; exact HC1.out⟩
      case round =>
        obtain ⟨j, hj, hgg2, rfl, hc⟩ := hrel
        have HC2 : Hid (LC w L (rotS L N i d o f g L.n) { S0 with kept := kj S0.kept j } X wb xb sb so N wr) := hc
        clear hc
        by_cases hlj : j < L.n
        · have x0 := HC2.out.x.c0
          rw [HC2.out.xn] at x0
          have kk := HC2.out.x.arr.hk.cell (j := j) (by rw [HC2.out.xn]; exact hlj)
          have kf := HC2.out.x.arr.hk.froz j
          have q1 : (0 : Int) ≤ (j : Int) := by omega
          have q2 : (j : Int) < (L.n : Int) := by omega
          go_wp2
          go_roundg (L.n - j)
          case measure => omega
          case rel =>
            refine ⟨j + 1, by omega, by omega, by go_num, ?_⟩
            have e := HC2.out.setKept hlj false
            rw [show ({ S0 with kept := kj S0.kept j } : St).kept = kj S0.kept j from rfl, kj_step] at e
            exact e
        · obtain rfl : j = L.n := by omega
          by_cases hd : 0 ≤ d
          · obtain ⟨dn, rfl⟩ := Int.eq_ofNat_of_zero_le hd
            have hdn : dn < L.n := by omega
            have m1 := rpos_int (j := dn) hi
            have m2 := rpos_tint (j := dn) hi
            have q3 : ¬ (L.n : Int) = 0 := by omega
            have q4 : ¬ L.n = 0 := by omega
            have x1 := HC2.out.x.c1
            have x2 := HC2.out.x.c2
            have x3 := HC2.out.x.c3
            rw [HC2.out.xn] at x3
            have fx := HC2.out.x.fx
            by_cases ho : 0 ≤ o
            · obtain ⟨on, rfl⟩ := Int.eq_ofNat_of_zero_le ho
              have hon : on < L.n := by omega
              by_cases hod : on = dn
              · have q5 : (((on : Nat) : Int) != (dn : Int)) = false := by simp [hod]
                have HOD : Hid (on = dn) := hod
                clear hod
                have q6 : (0 : Int) ≤ ((on : Nat) : Int) := by omega
                go_upto_region 25 with fail
                obtain ⟨T2, hT2⟩ : ∃ T2, T2 = ({ S0 with kept := kj S0.kept L.n, outc := S0.outc, dialer := -1, offer := -1 } : St) := ⟨_, rfl⟩
                have HT : Hid (T2 = { S0 with kept := kj S0.kept L.n, outc := (S0.outc), dialer := -1, offer := -1 } ∧ (S0.outc) = if 0 ≤ (on : Int) ∧ (on : Int) ≠ (dn : Int) then upd (fun _ => 0) (on : Int).toNat 1 else fun _ => 0) := ⟨hT2, by have hod := HOD.out; rw [if_neg (by omega), HE.out]; rfl⟩
                have HC3 : Hid (LC w L (rotS L N i dn on f g L.n) T2 X wb xb sb so N ((wr.setCell ⟨xb, 1, none⟩ (.int .i64 (-1))).setCell ⟨xb, 2, none⟩ (.int .i64 (-1)))) := by rw [hT2]; exact HC2.out.want ((((Mod.refl _ _)).setCell (Or.inl (Or.inl rfl)) _).setCell (Or.inl (Or.inl rfl)) _) ((HC2.out.x.setDialer (-1)).setOffer (-1))
                clear hT2
                generalize (wr.setCell ⟨xb, 1, none⟩ (.int .i64 (-1))).setCell ⟨xb, 2, none⟩ (.int .i64 (-1)) = w5 at HC3 ⊢
                clear x1 x2 x3 fx
                go_wp2_with fail
                go_loopg [21] (L.n + 1) (fun gg v wr => ∃ j : Nat, j ≤ L.n ∧ j + gg = L.n + 1 ∧ v = .int .i64 j ∧ LC w L (rotS L N i dn on f g L.n) { T2 with news := nj L i dn T2.news j } X wb xb sb so N wr)
                case atStart => exact ⟨0, by omega, by omega, rfl, by rw [nj_zero]; exact HC3.out⟩
                case round =>
                  obtain ⟨j, hj3, hgg3, rfl, hc⟩ := hrel
                  have HC4 : Hid (LC w L (rotS L N i dn on f g L.n) { T2 with news := nj L i dn T2.news j } X wb xb sb so N wr) := hc
                  clear hc
                  by_cases hlj3 : j < L.n
                  · have mj1 := rpos_int (j := j) hi
                    have mj2 := rpos_tint (j := j) hi
                    have x4 := HC4.out.x.c4
                    rw [HC4.out.xn] at x4
                    have kn := HC4.out.x.arr.hn.cell (j := j) (by rw [HC4.out.xn]; exact hlj3)
                    have kf := HC4.out.x.arr.hn.froz j
                    have sf := HC4.out.sp.f j hlj3
                    have q1 : (0 : Int) ≤ (j : Int) := by omega
                    have q2 : (j : Int) < (L.n : Int) := by omega
                    by_cases hb : rpos L.n i dn < rpos L.n i j
                    · have hb' : ((rpos L.n i dn : Nat) : Int) < ((rpos L.n i j : Nat) : Int) := by omega
                      by_cases hfo : L.follow j = true
                      · rw [hfo] at sf
                        have HJ : Hid (rpos L.n i dn < rpos L.n i j ∧ L.follow j = true) := ⟨hb, hfo⟩
                        clear hb hfo
                        go_wp2
                        go_roundg (L.n - j)
                        case measure => omega
                        case rel =>
                          refine ⟨j + 1, by omega, by omega, by go_num, ?_⟩
                          have e := HC4.out.want ((Mod.refl _ _).setCell (Or.inl (Or.inr (Or.inr (Or.inr rfl)))) _) (HC4.out.x.setNews (i := j) (by rw [HC4.out.xn]; exact hlj3) true)
                          rw [show ({ T2 with news := nj L i dn T2.news j } : St).news = nj L i dn T2.news j from rfl, nj_step HJ.out.1 HJ.out.2] at e
                          exact e
                      · have hfo' : L.follow j = false := by simpa using hfo
                        rw [hfo'] at sf
                        have HJ : Hid (L.follow j = false) := hfo'
                        clear hb hfo hfo'
                        go_wp2
                        go_roundg (L.n - j)
                        case measure => omega
                        case rel => exact ⟨j + 1, by omega, by omega, by go_num, by rw [nj_skip (by rw [HJ.out]; simp)]; exact HC4.out⟩
                    · have hb' : ¬ ((rpos L.n i dn : Nat) : Int) < ((rpos L.n i j : Nat) : Int) := by omega
                      have HJ : Hid (¬ rpos L.n i dn < rpos L.n i j) := hb
                      clear hb
                      go_wp2
                      go_roundg (L.n - j)
                      case measure => omega
                      case rel => exact ⟨j + 1, by omega, by omega, by go_num, by rw [nj_skip (by simp [HJ.out])]; exact HC4.out⟩
                  · obtain rfl : j = L.n := by omega
                    have HF0 : Hid (LC w L { T2 with news := nj L i dn T2.news L.n } { T2 with news := nj L i dn T2.news L.n } X wb xb sb so N wr) := HC4.out.hist (Mod.refl _ _) (HC4.out.hold.same (by
                      rw [HT.out.1, HE.out]; exact rot_end_yes hi hdn (by rw [← HT.out.2, HE.out])))
                    obtain ⟨S9, hS9⟩ : ∃ S9, S9 = ({ T2 with news := nj L i dn T2.news L.n } : St) := ⟨_, rfl⟩
                    have HF : Hid (LC w L S9 S9 X wb xb sb so N wr) := by rw [hS9]; exact HF0.out
                    clear hS9
                    have k0 := HF.out.cw0
                    have k1 := HF.out.cw1
                    have k2 := HF.out.cw2
                    have k3 := HF.out.cw3
                    have x0 := HF.out.x.c0
                    have x1 := HF.out.x.c1
                    have x2 := HF.out.x.c2
                    have x3 := HF.out.x.c3
                    have x4 := HF.out.x.c4
                    have x5 := HF.out.x.c5
                    have x6 := HF.out.x.c6
                    rw [HF.out.xn] at x0 x3 x4
                    go_wp2_with fail
                    refine (HF.out.holds (by omega)).mono ?_
                    rintro e w8 ⟨rfl, hc8⟩
                    have HC8 : Hid (LC w L S9 S9 X wb xb sb so N w8) := hc8
                    clear hc8 k0 k1 k2 k3 x0 x1 x2 x3 x4 x5 x6
                    go_wp2
                    go_ret
                    exact ⟨rfl, HC8.out.below⟩
              · have q5 : (((on : Nat) : Int) != (dn : Int)) = true := by rw [bne_iff_ne]; omega
                have co := HC2.out.x.arr.ho.cell (j := on) (by rw [HC2.out.xn]; exact hon)
                have fo := HC2.out.x.arr.ho.froz on
                have q6 : (0 : Int) ≤ ((on : Nat) : Int) := by omega
                have q7 : ((on : Nat) : Int) < (L.n : Int) := by omega
                have nxo := HC2.out.x.no
                go_upto_region 25 with fail
                obtain ⟨T2, hT2⟩ : ∃ T2, T2 = ({ S0 with kept := kj S0.kept L.n, outc := upd S0.outc on 1, dialer := -1, offer := -1 } : St) := ⟨_, rfl⟩
                have HT : Hid (T2 = { S0 with kept := kj S0.kept L.n, outc := (upd S0.outc on 1), dialer := -1, offer := -1 } ∧ (upd S0.outc on 1) = if 0 ≤ (on : Int) ∧ (on : Int) ≠ (dn : Int) then upd (fun _ => 0) (on : Int).toNat 1 else fun _ => 0) := ⟨hT2, by rw [if_pos ⟨by omega, by omega⟩, HE.out]; rfl⟩
                have HC3 : Hid (LC w L (rotS L N i dn on f g L.n) T2 X wb xb sb so N (((wr.setCell ⟨X.ob, on, none⟩ (.int .u8 1)).setCell ⟨xb, 1, none⟩ (.int .i64 (-1))).setCell ⟨xb, 2, none⟩ (.int .i64 (-1)))) := by rw [hT2]; exact HC2.out.want ((((Mod.refl _ _).setCell (Or.inl (Or.inr (Or.inr (Or.inl rfl)))) _).setCell (Or.inl (Or.inl rfl)) _).setCell (Or.inl (Or.inl rfl)) _) (((HC2.out.x.setOutc (i := on) (by rw [HC2.out.xn]; exact hon) 1).setDialer (-1)).setOffer (-1))
                clear hT2
                generalize ((wr.setCell ⟨X.ob, on, none⟩ (.int .u8 1)).setCell ⟨xb, 1, none⟩ (.int .i64 (-1))).setCell ⟨xb, 2, none⟩ (.int .i64 (-1)) = w5 at HC3 ⊢
                clear x1 x2 x3 fx co fo
                go_wp2_with fail
                go_loopg [21] (L.n + 1) (fun gg v wr => ∃ j : Nat, j ≤ L.n ∧ j + gg = L.n + 1 ∧ v = .int .i64 j ∧ LC w L (rotS L N i dn on f g L.n) { T2 with news := nj L i dn T2.news j } X wb xb sb so N wr)
                case atStart => exact ⟨0, by omega, by omega, rfl, by rw [nj_zero]; exact HC3.out⟩
                case round =>
                  obtain ⟨j, hj3, hgg3, rfl, hc⟩ := hrel
                  have HC4 : Hid (LC w L (rotS L N i dn on f g L.n) { T2 with news := nj L i dn T2.news j } X wb xb sb so N wr) := hc
                  clear hc
                  by_cases hlj3 : j < L.n
                  · have mj1 := rpos_int (j := j) hi
                    have mj2 := rpos_tint (j := j) hi
                    have x4 := HC4.out.x.c4
                    rw [HC4.out.xn] at x4
                    have kn := HC4.out.x.arr.hn.cell (j := j) (by rw [HC4.out.xn]; exact hlj3)
                    have kf := HC4.out.x.arr.hn.froz j
                    have sf := HC4.out.sp.f j hlj3
                    have q1 : (0 : Int) ≤ (j : Int) := by omega
                    have q2 : (j : Int) < (L.n : Int) := by omega
                    by_cases hb : rpos L.n i dn < rpos L.n i j
                    · have hb' : ((rpos L.n i dn : Nat) : Int) < ((rpos L.n i j : Nat) : Int) := by omega
                      by_cases hfo : L.follow j = true
                      · rw [hfo] at sf
                        have HJ : Hid (rpos L.n i dn < rpos L.n i j ∧ L.follow j = true) := ⟨hb, hfo⟩
                        clear hb hfo
                        go_wp2
                        go_roundg (L.n - j)
                        case measure => omega
                        case rel =>
                          refine ⟨j + 1, by omega, by omega, by go_num, ?_⟩
                          have e := HC4.out.want ((Mod.refl _ _).setCell (Or.inl (Or.inr (Or.inr (Or.inr rfl)))) _) (HC4.out.x.setNews (i := j) (by rw [HC4.out.xn]; exact hlj3) true)
                          rw [show ({ T2 with news := nj L i dn T2.news j } : St).news = nj L i dn T2.news j from rfl, nj_step HJ.out.1 HJ.out.2] at e
                          exact e
                      · have hfo' : L.follow j = false := by simpa using hfo
                        rw [hfo'] at sf
                        have HJ : Hid (L.follow j = false) := hfo'
                        clear hb hfo hfo'
                        go_wp2
                        go_roundg (L.n - j)
                        case measure => omega
                        case rel => exact ⟨j + 1, by omega, by omega, by go_num, by rw [nj_skip (by rw [HJ.out]; simp)]; exact HC4.out⟩
                    · have hb' : ¬ ((rpos L.n i dn : Nat) : Int) < ((rpos L.n i j : Nat) : Int) := by omega
                      have HJ : Hid (¬ rpos L.n i dn < rpos L.n i j) := hb
                      clear hb
                      go_wp2
                      go_roundg (L.n - j)
                      case measure => omega
                      case rel => exact ⟨j + 1, by omega, by omega, by go_num, by rw [nj_skip (by simp [HJ.out])]; exact HC4.out⟩
                  · obtain rfl : j = L.n := by omega
                    have HF0 : Hid (LC w L { T2 with news := nj L i dn T2.news L.n } { T2 with news := nj L i dn T2.news L.n } X wb xb sb so N wr) := HC4.out.hist (Mod.refl _ _) (HC4.out.hold.same (by
                      rw [HT.out.1, HE.out]; exact rot_end_yes hi hdn (by rw [← HT.out.2, HE.out])))
                    obtain ⟨S9, hS9⟩ : ∃ S9, S9 = ({ T2 with news := nj L i dn T2.news L.n } : St) := ⟨_, rfl⟩
                    have HF : Hid (LC w L S9 S9 X wb xb sb so N wr) := by rw [hS9]; exact HF0.out
                    clear hS9
                    have k0 := HF.out.cw0
                    have k1 := HF.out.cw1
                    have k2 := HF.out.cw2
                    have k3 := HF.out.cw3
                    have x0 := HF.out.x.c0
                    have x1 := HF.out.x.c1
                    have x2 := HF.out.x.c2
                    have x3 := HF.out.x.c3
                    have x4 := HF.out.x.c4
                    have x5 := HF.out.x.c5
                    have x6 := HF.out.x.c6
                    rw [HF.out.xn] at x0 x3 x4
                    go_wp2_with fail
                    refine (HF.out.holds (by omega)).mono ?_
                    rintro e w8 ⟨rfl, hc8⟩
                    have HC8 : Hid (LC w L S9 S9 X wb xb sb so N w8) := hc8
                    clear hc8 k0 k1 k2 k3 x0 x1 x2 x3 x4 x5 x6
                    go_wp2
                    go_ret
                    exact ⟨rfl, HC8.out.below⟩
            · go_upto_region 25 with fail
              obtain ⟨T2, hT2⟩ : ∃ T2, T2 = ({ S0 with kept := kj S0.kept L.n, outc := S0.outc, dialer := -1, offer := -1 } : St) := ⟨_, rfl⟩
              have HT : Hid (T2 = { S0 with kept := kj S0.kept L.n, outc := (S0.outc), dialer := -1, offer := -1 } ∧ (S0.outc) = if 0 ≤ o ∧ o ≠ (dn : Int) then upd (fun _ => 0) o.toNat 1 else fun _ => 0) := ⟨hT2, by rw [if_neg (by omega), HE.out]; rfl⟩
              have HC3 : Hid (LC w L (rotS L N i dn o f g L.n) T2 X wb xb sb so N ((wr.setCell ⟨xb, 1, none⟩ (.int .i64 (-1))).setCell ⟨xb, 2, none⟩ (.int .i64 (-1)))) := by rw [hT2]; exact HC2.out.want ((((Mod.refl _ _)).setCell (Or.inl (Or.inl rfl)) _).setCell (Or.inl (Or.inl rfl)) _) ((HC2.out.x.setDialer (-1)).setOffer (-1))
              clear hT2
              generalize (wr.setCell ⟨xb, 1, none⟩ (.int .i64 (-1))).setCell ⟨xb, 2, none⟩ (.int .i64 (-1)) = w5 at HC3 ⊢
              clear x1 x2 x3 fx
              go_wp2_with fail
              go_loopg [21] (L.n + 1) (fun gg v wr => ∃ j : Nat, j ≤ L.n ∧ j + gg = L.n + 1 ∧ v = .int .i64 j ∧ LC w L (rotS L N i dn o f g L.n) { T2 with news := nj L i dn T2.news j } X wb xb sb so N wr)
              case atStart => exact ⟨0, by omega, by omega, rfl, by rw [nj_zero]; exact HC3.out⟩
              case round =>
                obtain ⟨j, hj3, hgg3, rfl, hc⟩ := hrel
                have HC4 : Hid (LC w L (rotS L N i dn o f g L.n) { T2 with news := nj L i dn T2.news j } X wb xb sb so N wr) := hc
                clear hc
                by_cases hlj3 : j < L.n
                · have mj1 := rpos_int (j := j) hi
                  have mj2 := rpos_tint (j := j) hi
                  have x4 := HC4.out.x.c4
                  rw [HC4.out.xn] at x4
                  have kn := HC4.out.x.arr.hn.cell (j := j) (by rw [HC4.out.xn]; exact hlj3)
                  have kf := HC4.out.x.arr.hn.froz j
                  have sf := HC4.out.sp.f j hlj3
                  have q1 : (0 : Int) ≤ (j : Int) := by omega
                  have q2 : (j : Int) < (L.n : Int) := by omega
                  by_cases hb : rpos L.n i dn < rpos L.n i j
                  · have hb' : ((rpos L.n i dn : Nat) : Int) < ((rpos L.n i j : Nat) : Int) := by omega
                    by_cases hfo : L.follow j = true
                    · rw [hfo] at sf
                      have HJ : Hid (rpos L.n i dn < rpos L.n i j ∧ L.follow j = true) := ⟨hb, hfo⟩
                      clear hb hfo
                      go_wp2
                      go_roundg (L.n - j)
                      case measure => omega
                      case rel =>
                        refine ⟨j + 1, by omega, by omega, by go_num, ?_⟩
                        have e := HC4.out.want ((Mod.refl _ _).setCell (Or.inl (Or.inr (Or.inr (Or.inr rfl)))) _) (HC4.out.x.setNews (i := j) (by rw [HC4.out.xn]; exact hlj3) true)
                        rw [show ({ T2 with news := nj L i dn T2.news j } : St).news = nj L i dn T2.news j from rfl, nj_step HJ.out.1 HJ.out.2] at e
                        exact e
                    · have hfo' : L.follow j = false := by simpa using hfo
                      rw [hfo'] at sf
                      have HJ : Hid (L.follow j = false) := hfo'
                      clear hb hfo hfo'
                      go_wp2
                      go_roundg (L.n - j)
                      case measure => omega
                      case rel => exact ⟨j + 1, by omega, by omega, by go_num, by rw [nj_skip (by rw [HJ.out]; simp)]; exact HC4.out⟩
                  · have hb' : ¬ ((rpos L.n i dn : Nat) : Int) < ((rpos L.n i j : Nat) : Int) := by omega
                    have HJ : Hid (¬ rpos L.n i dn < rpos L.n i j) := hb
                    clear hb
                    go_wp2
                    go_roundg (L.n - j)
                    case measure => omega
                    case rel => exact ⟨j + 1, by omega, by omega, by go_num, by rw [nj_skip (by simp [HJ.out])]; exact HC4.out⟩
                · obtain rfl : j = L.n := by omega
                  have HF0 : Hid (LC w L { T2 with news := nj L i dn T2.news L.n } { T2 with news := nj L i dn T2.news L.n } X wb xb sb so N wr) := HC4.out.hist (Mod.refl _ _) (HC4.out.hold.same (by
                    rw [HT.out.1, HE.out]; exact rot_end_yes hi hdn (by rw [← HT.out.2, HE.out])))
                  obtain ⟨S9, hS9⟩ : ∃ S9, S9 = ({ T2 with news := nj L i dn T2.news L.n } : St) := ⟨_, rfl⟩
                  have HF : Hid (LC w L S9 S9 X wb xb sb so N wr) := by rw [hS9]; exact HF0.out
                  clear hS9
                  have k0 := HF.out.cw0
                  have k1 := HF.out.cw1
                  have k2 := HF.out.cw2
                  have k3 := HF.out.cw3
                  have x0 := HF.out.x.c0
                  have x1 := HF.out.x.c1
                  have x2 := HF.out.x.c2
                  have x3 := HF.out.x.c3
                  have x4 := HF.out.x.c4
                  have x5 := HF.out.x.c5
                  have x6 := HF.out.x.c6
                  rw [HF.out.xn] at x0 x3 x4
                  go_wp2_with fail
                  refine (HF.out.holds (by omega)).mono ?_
                  rintro e w8 ⟨rfl, hc8⟩
                  have HC8 : Hid (LC w L S9 S9 X wb xb sb so N w8) := hc8
                  clear hc8 k0 k1 k2 k3 x0 x1 x2 x3 x4 x5 x6
                  go_wp2
                  go_ret
                  exact ⟨rfl, HC8.out.below⟩
          · have HF0 : Hid (LC w L { S0 with kept := kj S0.kept L.n } { S0 with kept := kj S0.kept L.n } X wb xb sb so N wr) := HC2.out.hist (Mod.refl _ _) (HC2.out.hold.same (by rw [HE.out]; exact rot_end_no hi hd))
            obtain ⟨S9, hS9⟩ : ∃ S9, S9 = ({ S0 with kept := kj S0.kept L.n } : St) := ⟨_, rfl⟩
            have HF : Hid (LC w L S9 S9 X wb xb sb so N wr) := by rw [hS9]; exact HF0.out
            clear hS9
            have k0 := HF.out.cw0
            have k1 := HF.out.cw1
            have k2 := HF.out.cw2
            have k3 := HF.out.cw3
            have x0 := HF.out.x.c0
            have x1 := HF.out.x.c1
            have x2 := HF.out.x.c2
            have x3 := HF.out.x.c3
            have x4 := HF.out.x.c4
            have x5 := HF.out.x.c5
            have x6 := HF.out.x.c6
            rw [HF.out.xn] at x0 x3 x4
            go_wp2_with fail
            refine (HF.out.holds (by omega)).mono ?_
            rintro e w8 ⟨rfl, hc8⟩
            have HC8 : Hid (LC w L S9 S9 X wb xb sb so N w8) := hc8
            clear hc8 k0 k1 k2 k3 x0 x1 x2 x3 x4 x5 x6
            go_wp2
            go_ret
            exact ⟨rfl, HC8.out.below⟩


theorem rot_walk (peer : ByteArray) (a : Option Addr) (len cap : Nat) (i d o f : Int) (g : Bool) (w : World) (hp : peer.size ≤ maxLen) (hs : IsSpecs w a len) :
    Calls Try.prog 6 #[.string peer, .slice a len cap, .int .i64 i, .int .i64 d, .int .i64 o, .int .i64 f, .bool g] w fun e w' => e = .returned (.bool true) ∧ Below w.heap.size w w' := by
  obtain ⟨hl, hs⟩ := hs
  by_cases h1 : 65536 < peer.size ∨ 4096 < len
  · refine (rot_w_long peer a len cap i d o f g w hp hl h1).mono ?_
    rintro e w' ⟨rfl, rfl⟩
    exact ⟨rfl, Below.refl _ _⟩
  · by_cases h2 : Shape len i d o
    · rcases hs with rfl | ⟨sb, so, F, N, rfl, hs⟩
      · have := h2.1; omega
      · obtain ⟨i, rfl⟩ := Int.eq_ofNat_of_zero_le h2.2.1
        exact rot_w_main peer sb so len cap F N i d o f g w (by omega) (by omega) hs h2
    · refine (rot_w_shape peer a len cap i d o f g w (by omega) (by omega) h2).mono ?_
      rintro e w' ⟨rfl, rfl⟩
      exact ⟨rfl, Below.refl _ _⟩

end Go.Proofs.Qxb6616570a
