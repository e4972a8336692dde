/- holds. -/
import Derived.Test.Qxb6616570aZero
import Derived.Test.Qxb6616570aMaps
import Derived.Test.Qxb6616570aForget
import Derived.Test.Qxb6616570aFreshS
import Derived.Test.Qxb6616570aPick
import Derived.Deep.DeepCutAuto
import Derived.Deep.DrawnRows
import Derived.Deep.RegionWith
set_option linter.unusedSimpArgs false
set_option linter.unusedVariables false
namespace Go.Proofs.Qxb6616570a
open Go.RowKit

theorem Pl_drewN {w : World} {n b : Nat} : Pl (w.drewN n) b ↔ Pl w b := Iff.rfl

theorem quiet_plus {P : Program} {f : FuncId} {args : Array Value} {w : World} {k n : Nat} {v : Value}
    (h : Calls P f args (w.drewN (k + n)) fun e w' => e = .returned v ∧ w' = w.drewN (k + n)) : Calls P f args (w.drewN (k + n)) fun e w'' => e = .returned v ∧ ∃ m, w'' = w.drewN (k + m) :=
  h.mono fun _ _ ⟨he, hm⟩ => ⟨he, n, hm⟩

theorem run_neq_same {P : Program} (w : World) {tp te : TypeId} {j : TypeInfo} (a : Addr) (hp : P.underlying tp = some (.pointer te)) (hte : P.info? te = some j) :
    (binOp .neq tp (.pointer (some a)) (.pointer (some a))).run P w = .ok (.bool false) w := by
  have h : ∀ d : Nat, (Op.equalIn (d + 1) tp (.pointer (some a)) (.pointer (some a))).run P w = .ok true w := fun d => by
    simp [Op.equalIn, run_underlying hp, sizeOf, typeInfo, hte, run_sameAddr_same]
  simp only [binOp]
  simp [Op.equal, Op.maxDepth, h 9999]
theorem ne37s (w : World) (a : Option Addr) : (binOp .neq 37 (.pointer a) (.pointer a)).run Try.prog w = .ok (.bool false) w := by
  cases a with
  | none => simpa using ne37n w none
  | some a => exact run_neq_same w (j := (Try.prog.info? 109).get (by kernel_rfl)) a Try.underlying37 (by kernel_rfl)

theorem isFst_next {k : Nat → Bool} {n j : Nat} {x : Int} (h : IsFst k n j x) (hk : k j = false) : IsFst k n (j + 1) x := by
  rcases h with ⟨rfl, h⟩ | ⟨a, rfl, h1, h2, h3, h4⟩
  · exact Or.inl ⟨rfl, fun i a b => h i (by omega) b⟩
  · have : a ≠ j := fun e => by rw [e, hk] at h3; cases h3
    exact Or.inr ⟨a, rfl, by omega, h2, h3, fun i c d => h4 i (by omega) d⟩
theorem isFst_end {k : Nat → Bool} {n : Nat} {x : Int} (h : IsFst k n n x) : x = -1 := by
  rcases h with ⟨h, _⟩ | ⟨a, _, h1, h2, _⟩
  · exact h
  · omega

attribute [local go_sem] eq37 ne37 ne37n ne37s eq26 ne26 Pl_drew Pl_drewN Pl_alloc Pl_setCell

/-- The world as it is once the two structs lie in blocks of their own. -/
structure HB (L : Lay) (R : Raw) (S : St) (X : XLay) (a b : Nat) (w : World) : Prop where
  rep : Rep L R w
  good : Good L R S
  arr : XRep X b S w
  xn : X.n = L.n
  hw : w.heap[a]? = some (.cells #[.pointer (some ⟨L.h, 0, none⟩), .pointer (some ⟨L.r, 0, none⟩), .slice (some ⟨L.pb, 0, none⟩) L.n L.n, .slice (some ⟨L.eb, 0, none⟩) L.n L.n] 30)

theorem HB.still {L : Lay} {R : Raw} {S : St} {X : XLay} {a b : Nat} {w w' : World} (h : HB L R S X a b w) (hm : Mod (fun _ => False) w w') : HB L R S X a b w' :=
  ⟨h.rep.still hm, h.good, h.arr.still hm, h.xn, hm.stays h.hw id⟩

set_option maxRecDepth 100000 in
set_option maxHeartbeats 4000000 in
theorem holds_any {L : Lay} {S : St} {X : XLay} {w : World} (h : Hold L S w) (hx : XArr X S w) (hn : X.n = L.n) (hm : L.n ≤ 65536) :
    Calls Try.prog 15 #[.agg #[ptr L.h, ptr L.r, .slice (some ⟨L.pb, 0, none⟩) L.n L.n, .slice (some ⟨L.eb, 0, none⟩) L.n L.n], .string L.peer, .agg (X.xC S)] w fun e w' => e = .returned (.bool true) ∧ Mod (fun _ => False) w w' := by
  obtain ⟨R, hr, hg⟩ := h
  have HH : Hid (HB L R S X w.heap.size (w.heap.size + 1) ((w.alloc (.cells #[.pointer (some ⟨L.h, 0, none⟩), .pointer (some ⟨L.r, 0, none⟩), .slice (some ⟨L.pb, 0, none⟩) L.n L.n, .slice (some ⟨L.eb, 0, none⟩) L.n L.n] 30)).alloc (.cells (X.xC S) 35))) := by
    have m1 := (Mod.refl (fun _ => False) w).alloc (.cells #[.pointer (some ⟨L.h, 0, none⟩), .pointer (some ⟨L.r, 0, none⟩), .slice (some ⟨L.pb, 0, none⟩) L.n L.n, .slice (some ⟨L.eb, 0, none⟩) L.n L.n] 30)
    have m2 := m1.alloc (.cells (X.xC S) 35)
    refine ⟨hr.still m2, hg, ⟨hx.still m2, ?_⟩, hn, ?_⟩
    · have := heap_alloc_new (w.alloc (.cells #[.pointer (some ⟨L.h, 0, none⟩), .pointer (some ⟨L.r, 0, none⟩), .slice (some ⟨L.pb, 0, none⟩) L.n L.n, .slice (some ⟨L.eb, 0, none⟩) L.n L.n] 30)) (.cells (X.xC S) 35)
      rwa [World.size_alloc] at this
    · rw [Below.heap_alloc _ _ _ (by simp)]; exact heap_alloc_new w _
  have HM : Hid (Mod (fun _ => False) w ((w.alloc (.cells #[.pointer (some ⟨L.h, 0, none⟩), .pointer (some ⟨L.r, 0, none⟩), .slice (some ⟨L.pb, 0, none⟩) L.n L.n, .slice (some ⟨L.eb, 0, none⟩) L.n L.n] 30)).alloc (.cells (X.xC S) 35))) := ((Mod.refl _ _).alloc _).alloc _
  clear hr hg hx hn
  unfold XLay.xC at HH HM ⊢
  go_enter Try.func15, Try.ntmps15
  go_upto_region 1 with fail
  generalize (w.alloc (.cells #[.pointer (some ⟨L.h, 0, none⟩), .pointer (some ⟨L.r, 0, none⟩), .slice (some ⟨L.pb, 0, none⟩) L.n L.n, .slice (some ⟨L.eb, 0, none⟩) L.n L.n] 30)).alloc (.cells _ 35) = w1 at HH HM ⊢
  generalize w.heap.size + 1 = bx at HH ⊢
  generalize w.heap.size = bw at HH ⊢
  have cr7 := HH.out.rep.cr7
  have cw1 : w1.cell? ⟨bw, 1, none⟩ = some (.pointer (some ⟨L.r, 0, none⟩)) := cell_of HH.out.hw rfl
  rw [ep_ea] at cr7
  go_wp2_with (go_at_call 38; refine (recEntries_any L.r _ _ cr7).mono ?_; rintro e w' ⟨rfl, hw⟩; obtain rfl := hw.symm)
  clear cr7 cw1
  go_loopg [7, 8, 9] (L.n + 1) (fun gg sa ss sj wr => ∃ (j k : Nat) (x : Int) (b : Bool), j ≤ L.n ∧ j + gg = L.n + 1 ∧ wr = w1.drewN k ∧ sa = .pointer (L.ea x) ∧ IsFst S.kept L.n j x ∧ ss = .bool b ∧ (b = true ↔ ∃ i, i < j ∧ S.kept i = true) ∧ sj = .int .i64 j)
  case atStart => exact ⟨0, 0, R.head, false, by omega, by omega, rfl, rfl, HH.out.good.links.head, rfl, by simp, rfl⟩
  case round =>
    obtain ⟨j, k, x, b, hj, hgg, rfl, rfl, hx, rfl, hb, rfl⟩ := hrel
    have HX : Hid (IsFst S.kept L.n j x) := hx
    have HBB : Hid (b = true ↔ ∃ i, i < j ∧ S.kept i = true) := hb
    clear hx hb
    have ch : w1.cell? ⟨bw, 0, none⟩ = some (.pointer (some ⟨L.h, 0, none⟩)) := cell_of HH.out.hw rfl
    have cr : w1.cell? ⟨bw, 1, none⟩ = some (.pointer (some ⟨L.r, 0, none⟩)) := cell_of HH.out.hw rfl
    have cp : w1.cell? ⟨bw, 2, none⟩ = some (.slice (some ⟨L.pb, 0, none⟩) L.n L.n) := cell_of HH.out.hw rfl
    have ce : w1.cell? ⟨bw, 3, none⟩ = some (.slice (some ⟨L.eb, 0, none⟩) L.n L.n) := cell_of HH.out.hw rfl
    have pr := HH.out.rep.plR
    by_cases hlt : j < L.n
    · have q2 : (0 : Int) ≤ (j : Int) := by omega
      have q3 : (j : Int) < (L.n : Int) := by omega
      have x0 := HH.out.arr.c0
      have x3 := HH.out.arr.c3
      have x4 := HH.out.arr.c4
      rw [HH.out.xn] at x0 x3 x4
      have hjx : j < X.n := by rw [HH.out.xn]; exact hlt
      have xk := HH.out.arr.arr.hk.cell hjx
      have xo := HH.out.arr.arr.ho.cell hjx
      have xw := HH.out.arr.arr.hn.cell hjx
      have eb := HH.out.rep.ceb hlt
      have pb := HH.out.rep.cpb hlt
      have pE := HH.out.rep.plE hlt
      have e2 := HH.out.rep.ce2 hlt
      rw [HH.out.good.rf j hlt] at e2
      have e3 := HH.out.rep.ce3 hlt
      have e4 := HH.out.rep.ce4 hlt
      rw [HH.out.good.en j hlt] at e4
      have e5 := HH.out.rep.ce5 hlt
      rw [HH.out.good.oc j hlt] at e5
      go_upto_if 39 with fail
      go_cut [7, 8] (fun sa ss wx => ∃ (k : Nat) (x : Int) (b : Bool), wx = w1.drewN k ∧ sa = .pointer (L.ea x) ∧ IsFst S.kept L.n (j + 1) x ∧ ss = .bool b ∧ (b = true ↔ ∃ i, i < j + 1 ∧ S.kept i = true))
      case first =>
        by_cases hk : S.kept j = true
        · simp only [hk, if_true] at xk e2 ⊢
          have hxj : x = (j : Int) := by
            obtain ⟨a, e, h1, h2, _⟩ := isFst_here HX.out (Nat.le_refl j) hlt hk
            omega
          subst hxj
          have ea : L.ea (j : Int) = some ⟨L.E j, 0, none⟩ := by simp [Lay.ea, show ¬ ((j : Int) < 0) by omega]
          rw [ea]
          rw [ep_ea] at e3
          have q4 : (L.E j == L.E j) = true := by simp
          have HK : Hid (S.kept j = true) := hk
          have HXN : Hid (IsFst S.kept L.n (j + 1) (R.nx j)) := HH.out.good.links.nx j hlt hk
          clear hk ea
          go_upto_region 10 with fail
          go_quiet ((go_at_call 39; exact quiet_plus (entRecord_any _ _ _ (by exact e2))))
          go_wp2_with (go_at_call 40; refine (entNext_any _ _ _ (by exact e3)).mono ?_; rintro e w' ⟨rfl, hw⟩; obtain rfl := hw.symm)
          go_meet
          exact ⟨_, R.nx j, true, rfl, rfl, HXN.out, rfl, ⟨fun _ => ⟨j, by omega, HK.out⟩, fun _ => rfl⟩⟩
        · have hk' : S.kept j = false := by simpa using hk
          simp only [hk', if_false] at xk e2 ⊢
          have hnx := HH.out.good.out j hlt hk'
          rw [hnx, ep_nil] at e3
          have HK : Hid (S.kept j = false) := hk'
          clear hk hk' hnx
          go_wp2_with (first | (go_at_call 39; refine (entRecord_any _ _ _ (by exact e2)).mono ?_; rintro e w' ⟨rfl, hw⟩; obtain rfl := hw.symm) | (go_at_call 40; refine (entNext_any _ _ _ (by exact e3)).mono ?_; rintro e w' ⟨rfl, hw⟩; obtain rfl := hw.symm))
          go_meet
          refine ⟨_, x, b, rfl, rfl, isFst_next HX.out HK.out, rfl, HBB.out.trans ⟨fun ⟨i, h1, h2⟩ => ⟨i, by omega, h2⟩, fun ⟨i, h1, h2⟩ => ⟨i, ?_, h2⟩⟩⟩
          have : i ≠ j := fun e => by rw [e, HK.out] at h2; cases h2
          omega
      case rest =>
        obtain ⟨k', x', b', rfl, rfl, hx', rfl, hb'⟩ := hcut
        have HX' : Hid (IsFst S.kept L.n (j + 1) x' ∧ (b' = true ↔ ∃ i, i < j + 1 ∧ S.kept i = true)) := ⟨hx', hb'⟩
        clear hx' hb' e2 e3 xk
        have ob := HH.out.good.ob j hlt
        have q5 : (S.outc j != S.outc j) = false := by simp
        have g4 := HH.out.rep.cp4 hlt
        rw [HH.out.good.ph j hlt] at g4
        by_cases hw : S.news j = true
        · simp only [hw, if_true] at xw e4 g4
          obtain ⟨gg, cap, c2, cg⟩ := HH.out.rep.cp2t hlt (by rw [HH.out.good.pn j hlt]; exact hw)
          clear hw
          go_upto_region 15 with fail
          go_quiet (first | (go_at_call 41; exact quiet_plus (entNews_any _ _ _ (by exact e4))) | (go_at_call 42; exact quiet_plus (entOutcome_any _ _ _ (by exact e5) ob.1 ob.2)))
          go_wp2_with (first | (go_at_call 43; refine (partNewsLen_any _ _ _ _ _ (by exact c2)).mono ?_; rintro e w' ⟨rfl, hw⟩; obtain rfl := hw.symm) | (go_at_call 44; refine (partNewsAt_any _ _ _ _ _ (by exact c2) (by exact cg)).mono ?_; rintro e w' ⟨rfl, hw⟩; obtain rfl := hw.symm) | (go_at_call 45; refine (partHasNews_any _ _ _ (by exact g4)).mono ?_; rintro e w' ⟨rfl, hw⟩; obtain rfl := hw.symm))
          go_roundg (L.n - j)
          case measure => omega
          case rel => exact ⟨j + 1, _, x', b', by omega, by omega, rfl, rfl, HX'.out.1, rfl, HX'.out.2, by go_num⟩
        · have hw' : S.news j = false := by simpa using hw
          simp only [hw'] at xw e4 g4
          have c2 := HH.out.rep.cp2f hlt (by rw [HH.out.good.pn j hlt]; exact hw')
          clear hw hw'
          go_upto_region 15 with fail
          go_quiet (first | (go_at_call 41; exact quiet_plus (entNews_any _ _ _ (by exact e4))) | (go_at_call 42; exact quiet_plus (entOutcome_any _ _ _ (by exact e5) ob.1 ob.2)))
          go_wp2_with (first | (go_at_call 43; refine (partNewsLen_any _ _ _ _ _ (by exact c2)).mono ?_; rintro e w' ⟨rfl, hw⟩; obtain rfl := hw.symm) | (go_at_call 45; refine (partHasNews_any _ _ _ (by exact g4)).mono ?_; rintro e w' ⟨rfl, hw⟩; obtain rfl := hw.symm))
          go_roundg (L.n - j)
          case measure => omega
          case rel => exact ⟨j + 1, _, x', b', by omega, by omega, rfl, rfl, HX'.out.1, rfl, HX'.out.2, by go_num⟩
    · obtain rfl : j = L.n := by omega
      obtain rfl : x = -1 := isFst_end HX.out
      rw [show L.ea (-1) = none from rfl]
      have c5 := HH.out.rep.cr5
      have c6 := HH.out.rep.cr6
      rw [ep_ea, HH.out.good.dl] at c5
      rw [ep_ea, HH.out.good.of] at c6
      have c0 := HH.out.rep.cr0
      have c1 := HH.out.rep.cr1
      have c2 := HH.out.rep.cr2
      have c3 := HH.out.rep.cr3
      have c4 := HH.out.rep.cr4
      rw [HH.out.good.fa] at c0
      rw [HH.out.good.fg] at c4
      have x1 := HH.out.arr.c1
      have x2 := HH.out.arr.c2
      have x5 := HH.out.arr.c5
      have x6 := HH.out.arr.c6
      have d1 := HH.out.good.d1
      have o1 := HH.out.good.o1
      have q5 : (S.failures != S.failures) = false := by simp
      have q6 : (S.failing != S.failing) = false := by simp
      go_upto_region 25 with fail
      go_quiet (first | (go_at_call 46; exact quiet_plus (recDialer_any _ _ _ (by exact c5))) | (go_at_call 47; exact quiet_plus (recOffer_any _ _ _ (by exact c6))) | (go_at_call_of 35 (Value.int IntKind.i64 S.dialer); exact quiet_plus ((pick_ep (HH.out.rep.drewN _) S.dialer d1).mono (fun e w' h => ⟨h.1, h.2.symm⟩))) | (go_at_call 35; exact quiet_plus ((pick_ep (HH.out.rep.drewN _) S.offer o1).mono (fun e w' h => ⟨h.1, h.2.symm⟩))))
      go_upto_region 27 with fail
      have HH2 : Hid (HB L R S X bw bx ((w1.drewN k).drewN nq)) := HH.out.still (((Mod.refl _ _).drewN k).drewN nq)
      have HM2 : Hid (Mod (fun _ => False) w ((w1.drewN k).drewN nq)) := (HM.out.drewN k).drewN nq
      clear c0 c1 c2 c3 c4 c5 c6 x1 x2 x5 x6 ch cr cp ce pr
      generalize (w1.drewN k).drewN nq = w2 at HH2 HM2 ⊢
      have cr : w2.cell? ⟨bw, 1, none⟩ = some (.pointer (some ⟨L.r, 0, none⟩)) := cell_of HH2.out.hw rfl
      have c0 := HH2.out.rep.cr0
      have c1 := HH2.out.rep.cr1
      have c2 := HH2.out.rep.cr2
      have c3 := HH2.out.rep.cr3
      have c4 := HH2.out.rep.cr4
      rw [HH.out.good.fa] at c0
      rw [HH.out.good.fg] at c4
      have x5 := HH2.out.arr.c5
      have x6 := HH2.out.arr.c6
      go_region_held3 (fun w' => w'.cell? ⟨bw, 1, none⟩ = some (.pointer (some ⟨L.r, 0, none⟩)) ∧ w'.cell? ⟨bx, 5, none⟩ = some (.int .i64 S.failures) ∧ w'.cell? ⟨bx, 6, none⟩ = some (.bool S.failing)) (go_keep)
        (first | (go_at_call 48; refine (recFailures_any L.r (.int .i64 S.failures) _ ?_).mono ?_; (simp [*]); rintro e w' ⟨rfl, hw⟩; obtain rfl := hw.symm) | (go_at_call 49; refine (recFailing_any L.r (.bool S.failing) _ ?_).mono ?_; (simp [*]); rintro e w' ⟨rfl, hw⟩; obtain rfl := hw.symm) | (go_at_call 50; refine (recLastZero_any L.r _ ?_ ?_ ?_).mono ?_; (simp [*]); (simp [*]); (simp [*]); rintro e w' ⟨rfl, hw⟩; obtain rfl := hw.symm))
      go_upto_region 29 with fail
      have HH3 : Hid (HB L R S X bw bx (w2.alloc (.cells #[.int .u64 0, .int .i64 0, .pointer none] 43)).drew) := HH2.out.still (((Mod.refl _ _).alloc _).drew)
      have HM3 : Hid (Mod (fun _ => False) w (w2.alloc (.cells #[.int .u64 0, .int .i64 0, .pointer none] 43)).drew) := (HM2.out.alloc _).drew
      clear c0 c1 c2 c3 c4 x5 x6 cr
      generalize (w2.alloc (.cells #[.int .u64 0, .int .i64 0, .pointer none] 43)).drew = w3 at HH3 HM3 ⊢
      have ch : w3.cell? ⟨bw, 0, none⟩ = some (.pointer (some ⟨L.h, 0, none⟩)) := cell_of HH3.out.hw rfl
      have cr : w3.cell? ⟨bw, 1, none⟩ = some (.pointer (some ⟨L.r, 0, none⟩)) := cell_of HH3.out.hw rfl
      have pr := HH3.out.rep.plR
      have h2 := HH3.out.rep.ch2
      have q7 : (L.r == L.r) = true := by simp
      obtain ⟨born, clk, hmm⟩ := HH3.out.rep.hm
      cases b
      · have hh : R.has = false := by
          cases hc : R.has
          · rfl
          · have := HBB.out.2 (HH.out.good.has.1 hc); cases this
        have HMP : Hid (w3.heap[L.m]? = some (.map #[] clk)) := by
          show w3.heap[L.m]? = _
          rw [hmm]; unfold Lay.mO; rw [hh]; rfl
        clear hmm hh
        go_wp2_with (first | (go_at_call 51; refine (peerRecord_none _ _ _ _ _ h2 HMP.out).mono ?_; rintro e w' ⟨rfl, hw⟩; obtain rfl := hw.symm) | (go_at_call 52; refine (peerCount_any _ _ _ _ _ h2 HMP.out).mono ?_; rintro e w' ⟨rfl, hw⟩; obtain rfl := hw.symm))
        go_ret
        exact ⟨rfl, HM3.out⟩
      · have hh : R.has = true := HH.out.good.has.2 (HBB.out.1 rfl)
        have HMP : Hid (w3.heap[L.m]? = some (.map #[{ key := .string L.peer, val := .pointer (some ⟨L.r, 0, none⟩), born := born }] clk)) := by
          show w3.heap[L.m]? = _
          rw [hmm]; unfold Lay.mO; rw [hh]; rfl
        clear hmm hh
        go_wp2_with (first | (go_at_call 51; refine (peerRecord_one _ _ _ _ _ _ _ h2 HMP.out).mono ?_; rintro e w' ⟨rfl, hw⟩; obtain rfl := hw.symm) | (go_at_call 52; refine (peerCount_any _ _ _ _ _ h2 HMP.out).mono ?_; rintro e w' ⟨rfl, hw⟩; obtain rfl := hw.symm))
        go_ret
        exact ⟨rfl, HM3.out⟩

end Go.Proofs.Qxb6616570a
