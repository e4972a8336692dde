/- (*record).changedBy. -/
import Derived.Test.Qxb6616570aEnd
import Derived.Test.Qxb6616570aLinks
import Derived.Deep.AppendLies
import Derived.Deep.LoopGhost
set_option linter.unusedSimpArgs false
set_option linter.unusedVariables false
namespace Go.Proofs.Qxb6616570a
open Go.RowKit

theorem info37 : (Try.prog.info? 37).map (fun i => (i.zero, i.size, i.bytes)) = some (some (.pointer none), 1, 8) := by kernel_rfl

attribute [local go_sem] eq37 ne37 ne37n eq60 Pl_drew Pl_alloc Pl_setCell

theorem own_first {c : Array Value} {v : Value} (h : c.toList.take ((0 + 1) * 1) = [] ++ [v]) : c[0]? = some v := by
  have e : (c.toList.take 1)[0]? = some v := by
    rw [show c.toList.take 1 = [v] from h]; rfl
  rw [List.getElem?_take_of_lt (by omega), Array.getElem?_toList] at e
  exact e

set_option maxHeartbeats 1000000 in
theorem changedBy_any {L : Lay} {R : Raw} {w : World} {k : Nat → Bool} (h : Rep L R w) (hl : Links L R k) {i : Nat} (hi : i < L.n) (hc : ∀ j, j < L.n → R.pn j = R.en j ∧ R.ph j = R.en j) :
    Calls Try.prog 62 #[.pointer (some ⟨L.r, 0, none⟩), .pointer (some ⟨L.P i, 0, none⟩)] w fun e w' => e = .returned (.tuple #[]) ∧ Rep L (newsR L R k i L.n) w' ∧ Mod L.own w w' := by
  have c7 := h.cr7
  have HL : Hid (Links L R k) := hl
  have H : Hid (Rep L R w) := h
  have HC : Hid (∀ j, j < L.n → R.pn j = R.en j ∧ R.ph j = R.en j) := hc
  clear h hl hc
  go_enter Try.func62, Try.ntmps62
  go_wp2
  go_loopg [4] (L.n + 1) (fun g v wr => ∃ (p : Nat) (x : Int), p ≤ L.n ∧ p + g = L.n + 1 ∧ v = L.ep x ∧ IsFst k L.n p x ∧ Rep L (newsR L R k i p) wr ∧ Mod L.own w wr)
  case atStart => exact ⟨0, R.head, by omega, by omega, rfl, HL.out.head, by rw [newsR_zero]; exact H.out, Mod.refl _ _⟩
  case round =>
    obtain ⟨p, x, hpn, hp, rfl, hx, hr, hm⟩ := hrel
    have HR : Hid (Rep L (newsR L R k i p) wr) := hr
    have HM : Hid (Mod L.own w wr) := hm
    clear hr hm c7 H
    rcases hx with ⟨rfl, hx⟩ | ⟨a, rfl, h1, h2, h3, h4⟩
    · have HX : Hid (∀ i, p ≤ i → i < L.n → k i = false) := hx
      clear hx
      rw [ep_nil]
      go_wp2
      go_end0
      refine ⟨rfl, ?_, HM.out⟩
      rw [newsR_skip hpn (fun j a b => Or.inl (HX.out j a b))]
      exact HR.out
    · rw [ep_nat]
      have HK : Hid (k a = true ∧ ∀ i, p ≤ i → i < a → k i = false) := ⟨h3, h4⟩
      clear h3 h4
      have e0 := HR.out.ce0 h2
      have e3 := HR.out.ce3 h2
      have p1 := HR.out.plP h2
      have p2 := HR.out.plP hi
      have e3' : (newsR L R k i p).nx a = R.nx a := rfl
      rw [e3'] at e3
      clear e3'
      have nextOk := HL.out.nx a h2 HK.out.1
      have HN : Hid (IsFst k L.n (a + 1) (R.nx a)) := nextOk
      clear nextOk
      by_cases hai : a = i
      · have q : (L.P a == L.P i) = true := by simp [hai]
        have HA : Hid (a = i) := hai
        clear hai
        go_wp2
        go_roundg (L.n - a)
        case measure => omega
        case rel =>
          refine ⟨a + 1, R.nx a, by omega, by omega, rfl, HN.out, ?_, HM.out⟩
          rw [newsR_skip1 (p := p) (by omega) HK.out.2 (Or.inl HA.out)]
          exact HR.out
      · have q := HR.out.neP h2 hi hai
        have HA : Hid (a ≠ i) := hai
        clear hai
        have g1 := HR.out.cp1 h2
        by_cases hf : L.follow a = true
        · have HF : Hid (L.follow a = true) := hf
          rw [hf] at g1
          clear hf
          have e4 := HR.out.ce4 h2
          by_cases hn : (newsR L R k i p).en a = true
          · rw [hn] at e4
            have HE : Hid ((newsR L R k i p).en a = true) := hn
            clear hn
            go_wp2
            go_roundg (L.n - a)
            case measure => omega
            case rel =>
              refine ⟨a + 1, R.nx a, by omega, by omega, rfl, HN.out, ?_, HM.out⟩
              have he : R.en a = true := by
                have := HE.out
                simpa [newsR, nw, show ¬ a < p by omega] using this
              have hcc := HC.out a h2
              rw [newsR_skip1 (p := p) (by omega) HK.out.2 (Or.inr (Or.inr ⟨he, by rw [hcc.1, he], by rw [hcc.2, he]⟩))]
              exact HR.out
          · have hn' : (newsR L R k i p).en a = false := by simpa using hn
            rw [hn'] at e4
            have hpn' : (newsR L R k i p).pn a = false := by
              have hcc := HC.out a h2
              simp [newsR, nw, show ¬ a < p by omega] at hn' ⊢
              rw [hcc.1, hn']
            have fe := HR.out.fe h2
            have ne := HR.out.nePE h2 h2
            have r1 := HR.out.setEn h2 true
            have hb : ((wr.setCell ⟨L.E a, 4, none⟩ (.bool true)).alloc (.cells #[.pointer (some ⟨L.E a, 0, none⟩)] 37)).heap[wr.heap.size]? = some (.cells #[.pointer (some ⟨L.E a, 0, none⟩)] 37 (0, 0)) := by
              have e := heap_alloc_new (wr.setCell ⟨L.E a, 4, none⟩ (.bool true)) (.cells #[.pointer (some ⟨L.E a, 0, none⟩)] 37)
              rw [World.size_setCell] at e
              exact e
            have HB : Hid (((wr.setCell ⟨L.E a, 4, none⟩ (.bool true)).alloc (.cells #[.pointer (some ⟨L.E a, 0, none⟩)] 37)).heap[wr.heap.size]? = some (.cells #[.pointer (some ⟨L.E a, 0, none⟩)] 37 (0, 0))) := hb
            have r2 := r1.alloc (.cells #[.pointer (some ⟨L.E a, 0, none⟩)] 37)
            have HR2 : Hid (Rep L { newsR L R k i p with en := upd (newsR L R k i p).en a true } ((wr.setCell ⟨L.E a, 4, none⟩ (.bool true)).alloc (.cells #[.pointer (some ⟨L.E a, 0, none⟩)] 37))) := r2
            have HP : Hid ((newsR L R k i p).pn a = false) := hpn'
            have e5 := HR.out.cp2f h2 hpn'
            clear r1 r2 hn hn' hpn'
            obtain ⟨i0, hi0, hz0, hz1, hz2⟩ := info_parts info37
            have HI : Hid (Try.prog.info? 37 = some i0 ∧ i0.zero = some (.pointer none) ∧ i0.size = 1 ∧ i0.bytes = 8) := ⟨hi0, hz0, hz1, hz2⟩
            clear hi0 hz0 hz1 hz2 hb
            go_wp2_with (at_builtin; refine wpList_append_lies _ rfl _ _ _ rfl 0 37 i0 _ 1 8 Try.underlying28 HI.out.1 HI.out.2.1 HI.out.2.2.1 HI.out.2.2.2 rfl (by omega) (.slice none 0 0) 0 [] rfl ⟨rfl, Or.inl ⟨rfl, rfl⟩⟩ ⟨wr.heap.size, 0, none⟩ 1 1 [.pointer (some ⟨L.E a, 0, none⟩)] rfl rfl (World.news_of_block (cs := #[.pointer (some ⟨L.E a, 0, none⟩)]) (t := 37) (fr := (0, 0)) HB.out) (by simp [Value.oneCell']) (by omega) (by unfold maxLen; omega) (by omega) (by omega) _ rfl ?_; intro g cap w1 hown1 hgrow hat hlt; have r3 := HR2.out.still ((Mod.refl _ _).grown hgrow); have k2 := r3.cp2f h2 HP.out; have k4 := r3.cp4 h2; have fp := r3.fp h2; have k3 := r3.cp3 h2; have k5 := r3.ce3 h2; have HR3 : Hid (Rep L { newsR L R k i p with en := upd (newsR L R k i p).en a true } w1) := r3; have HO : Hid _ := hown1; have HG : Hid _ := hgrow; clear r3 hown1 hgrow hat hlt)
            have hg : ∃ c, w1.heap[g]? = some (.cells c 37 (0, 0)) ∧ c[0]? = some (ptr (L.E a)) := by
              obtain ⟨_, hx | ⟨g', cap', cur, hv, _, hgg, _, _, hsz, htk⟩⟩ := HO.out
              · cases hx.1
              · cases hv
                exact ⟨cur, hgg, own_first htk⟩
            obtain ⟨c, hgc, hc0⟩ := hg
            have r4 := HR3.out.setPn (cap := cap) h2 hgc hc0
            refine (store_any (L.P a) 4 _ _ (r4.cp4 h2) (r4.fp h2 4)).mono ?_
            rintro e w' ⟨rfl, rfl⟩
            have r5 := (r4.setPh h2).drew
            have m5 := ((((((Mod.refl L.own wr).setCell (p := ⟨L.E a, 4, none⟩) (Or.inl (own_E L h2)) (.bool true)).alloc (.cells #[.pointer (some ⟨L.E a, 0, none⟩)] 37)).grown HG.out).setCell (p := ⟨L.P a, 2, none⟩) (Or.inl (own_P L h2)) (.slice (some ⟨g, 0, none⟩) 1 cap)).setCell (p := ⟨L.P a, 4, none⟩) (Or.inl (own_P L h2)) (.int .u32 1)).drew
            have HR5 : Hid (Rep L (newsR L R k i (a + 1)) (((w1.setCell ⟨L.P a, 2, none⟩ (.slice (some ⟨g, 0, none⟩) 1 cap)).setCell ⟨L.P a, 4, none⟩ (.int .u32 1)).drew)) := by
              rw [newsR_step (p := p) h1 HK.out.2 HK.out.1 HA.out HF.out]
              exact r5
            have HM5 : Hid (Mod L.own wr (((w1.setCell ⟨L.P a, 2, none⟩ (.slice (some ⟨g, 0, none⟩) 1 cap)).setCell ⟨L.P a, 4, none⟩ (.int .u32 1)).drew)) := m5
            clear r4 r5 m5 hgc hc0 e0 e3 e4 e5 g1 p1 p2 k2 k3 k4 k5 fp fe HB HI HO HG HR2 HR3 HP
            go_wp2_with fail
            refine (fire_any (L.P a) 3 _ (HR5.out.cp3 h2)).mono ?_
            rintro e w' ⟨rfl, rfl⟩
            have k5 := HR5.out.ce3 h2
            go_wp2
            go_roundg (L.n - a)
            case measure => omega
            case rel => exact ⟨a + 1, R.nx a, by omega, by omega, rfl, HN.out, HR5.out, HM.out.trans HM5.out⟩
        · have hf' : L.follow a = false := by simpa using hf
          rw [hf'] at g1
          have HF : Hid (L.follow a = false) := hf'
          clear hf hf'
          go_wp2
          go_roundg (L.n - a)
          case measure => omega
          case rel =>
            refine ⟨a + 1, R.nx a, by omega, by omega, rfl, HN.out, ?_, HM.out⟩
            rw [newsR_skip1 (p := p) (by omega) HK.out.2 (Or.inr (Or.inl HF.out))]
            exact HR.out

end Go.Proofs.Qxb6616570a
