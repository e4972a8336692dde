/- endBy, newsFrom. -/
import Derived.Test.Qxb6616570aWant
import Derived.Test.Qxb6616570aGood
import Derived.Test.Qxb6616570aLeaf
import Derived.Deep.LoopGhost
import Derived.BigRegion
import Derived.RegionTactic
set_option linter.unusedSimpArgs false
set_option linter.unusedVariables false
namespace Go.Proofs.Qxb6616570a
open Go.RowKit

/-- The entries' specifications, as they came in. -/
structure Specs (w : World) (sb so n : Nat) (F N : Nat → Bool) : Prop where
  f : ∀ j, j < n → w.cell? ⟨sb, so + j * 2, none⟩ = some (.bool (F j))
  g : ∀ j, j < n → w.cell? ⟨sb, so + j * 2 + 1, none⟩ = some (.bool (N j))
  pos : 0 < n
theorem Specs.lt {w : World} {sb so n : Nat} {F N : Nat → Bool} (h : Specs w sb so n F N) : sb < w.heap.size := World.block_lt_of_cell? w _ (h.f 0 h.pos)
theorem Specs.mod {w w' : World} {sb so n : Nat} {F N : Nat → Bool} (h : Specs w sb so n F N) {M : Nat → Prop} (hm : Mod M w w') (hs : ¬ M sb) : Specs w' sb so n F N := by
  have e := hm.keep sb h.lt hs
  exact ⟨fun j hj => by rw [← h.f j hj]; simp only [World.cell?, e], fun j hj => by rw [← h.g j hj]; simp only [World.cell?, e], h.pos⟩

set_option maxHeartbeats 400000 in
theorem endBy_any {X : XLay} {b : Nat} {S : St} {w : World} (h : XRep X b S w) {i : Nat} (hi : i < X.n) (hd : S.dialer = (i : Int)) (ho1 : S.offer < X.n) :
    Calls Try.prog 18 #[.pointer (some ⟨b, 0, none⟩), .int .i64 i] w fun e w' => e = .returned (.tuple #[]) ∧ XRep X b (endS S i) w' ∧ Mod (X.own b) w w' := by
  have c1 := h.c1
  have c2 := h.c2
  have c3 := h.c3
  have fx := h.fx
  rw [hd] at c1
  have mb : X.own b b := Or.inl rfl
  have mo : X.own b X.ob := Or.inr (Or.inr (Or.inl rfl))
  by_cases hn : S.offer < 0
  · have r := (h.setDialer (-1)).setOffer (-1)
    have HR : Hid (XRep X b (endS S i) ((w.setCell ⟨b, 1, none⟩ (.int .i64 (-1))).setCell ⟨b, 2, none⟩ (.int .i64 (-1)))) := by
      show XRep X b (endS S i) _
      simpa [endS, hd, show ¬ (0 ≤ S.offer) by omega] using r
    have HM : Hid (Mod (X.own b) w ((w.setCell ⟨b, 1, none⟩ (.int .i64 (-1))).setCell ⟨b, 2, none⟩ (.int .i64 (-1)))) := ((Mod.refl _ _).setCell (Or.inl mb) _).setCell (Or.inl mb) _
    clear h hd r mb mo
    go_enter Try.func18, Try.ntmps18
    go_wp2
    go_end0
    exact ⟨rfl, HR.out, HM.out⟩
  · obtain ⟨o, ho⟩ := Int.eq_ofNat_of_zero_le (by omega : 0 ≤ S.offer)
    rw [ho] at c2
    by_cases hoi : o = i
    · have r := (h.setDialer (-1)).setOffer (-1)
      have HR : Hid (XRep X b (endS S i) ((w.setCell ⟨b, 1, none⟩ (.int .i64 (-1))).setCell ⟨b, 2, none⟩ (.int .i64 (-1)))) := by
        show XRep X b (endS S i) _
        simpa [endS, hd, ho, hoi] using r
      have HM : Hid (Mod (X.own b) w ((w.setCell ⟨b, 1, none⟩ (.int .i64 (-1))).setCell ⟨b, 2, none⟩ (.int .i64 (-1)))) := ((Mod.refl _ _).setCell (Or.inl mb) _).setCell (Or.inl mb) _
      subst hoi
      clear h hd r mb mo ho
      go_enter Try.func18, Try.ntmps18
      go_wp2
      go_end0
      exact ⟨rfl, HR.out, HM.out⟩
    · have hon : o < X.n := by omega
      have r := ((h.setOutc hon 1).setDialer (-1)).setOffer (-1)
      have HR : Hid (XRep X b (endS S i) (((w.setCell ⟨X.ob, o, none⟩ (.int .u8 1)).setCell ⟨b, 1, none⟩ (.int .i64 (-1))).setCell ⟨b, 2, none⟩ (.int .i64 (-1)))) := by
        show XRep X b (endS S i) _
        simpa [endS, hd, ho, show ¬ ((o : Int) = (i : Int)) by omega] using r
      have HM : Hid (Mod (X.own b) w (((w.setCell ⟨X.ob, o, none⟩ (.int .u8 1)).setCell ⟨b, 1, none⟩ (.int .i64 (-1))).setCell ⟨b, 2, none⟩ (.int .i64 (-1)))) := (((Mod.refl _ _).setCell (Or.inl mo) _).setCell (Or.inl mb) _).setCell (Or.inl mb) _
      have co := h.arr.ho.cell hon
      have fo := h.arr.ho.froz o
      have nob := h.no
      have q1 : ((o : Int) != (i : Int)) = true := by rw [bne_iff_ne]; omega
      have q2 : (0 : Int) ≤ (o : Int) := by omega
      have q3 : (o : Int) < (X.n : Int) := by omega
      clear h hd r mb mo ho
      go_enter Try.func18, Try.ntmps18
      go_wp2
      go_region
      go_wp2
      go_end0
      exact ⟨rfl, HR.out.still ((Mod.refl _ _).drew), HM.out.drew⟩

theorem nw_last {L : Lay} {k : Nat → Bool} {i j : Nat} (f : Nat → Bool) (h : k j = false ∨ j = i ∨ L.follow j = false) : nw L k i (j + 1) f = nw L k i j f :=
  nw_skip f (by omega) (fun l a b => by
    obtain rfl : l = j := by omega
    rcases h with e | e | e <;> simp [e])

set_option maxHeartbeats 1000000 in
theorem newsFrom_any {X : XLay} {b : Nat} {S : St} {w : World} {L : Lay} {sb so cap : Nat} {N : Nat → Bool} (h : XRep X b S w) (hs : Specs w sb so L.n L.follow N) (hn : X.n = L.n) {i : Nat} (hi : i < L.n) (hm : L.n ≤ 65536)
    (hsb : sb ≠ b ∧ sb ≠ X.kb ∧ sb ≠ X.ob ∧ sb ≠ X.nb) :
    Calls Try.prog 19 #[.pointer (some ⟨b, 0, none⟩), .slice (some ⟨sb, so, none⟩) L.n cap, .int .i64 i] w fun e w' => e = .returned (.tuple #[]) ∧ XRep X b (newsS L S i) w' ∧ Mod (X.own b) w w' := by
  have HX : Hid (XRep X b S w) := h
  have HS : Hid (Specs w sb so L.n L.follow N) := hs
  have HN : Hid (X.n = L.n) := hn
  have HB : Hid (¬ X.own b sb) := by
    intro k; rcases k with k | k | k | k
    · exact hsb.1 k
    · exact hsb.2.1 k
    · exact hsb.2.2.1 k
    · exact hsb.2.2.2 k
  clear h hs hn hsb
  go_enter Try.func19, Try.ntmps19
  go_wp2
  go_loopg [6] (L.n + 1) (fun g v wr => ∃ j : Nat, j ≤ L.n ∧ j + g = L.n + 1 ∧ v = .int .i64 j ∧ XRep X b { S with news := nw L S.kept i j S.news } wr ∧ Mod (X.own b) w wr)
  case atStart => exact ⟨0, by omega, by omega, rfl, by rw [nw_zero]; exact HX.out, Mod.refl _ _⟩
  case round =>
    obtain ⟨j, hj, hg, rfl, hx, hm'⟩ := hrel
    have H1 : Hid (XRep X b { S with news := nw L S.kept i j S.news } wr) := hx
    have H2 : Hid (Mod (X.own b) w wr) := hm'
    clear hx hm'
    by_cases hlt : j < L.n
    · have c0 := H1.out.c0
      have c4 := H1.out.c4
      rw [HN.out] at c0 c4
      have hjx : j < X.n := by rw [HN.out]; exact hlt
      have ck := H1.out.arr.hk.cell hjx
      have cn := H1.out.arr.hn.cell hjx
      have fn := H1.out.arr.hn.froz j
      have sf := (HS.out.mod H2.out HB.out).f j hlt
      have q2 : (0 : Int) ≤ (j : Int) := by omega
      have q3 : (j : Int) < (L.n : Int) := by omega
      by_cases hk : S.kept j = true
      · by_cases hji : j = i
        · have q1 : ((j : Int) != (i : Int)) = false := by simp [hji]
          have HE : Hid (j = i) := hji
          simp only [hk] at ck
          clear hji hk
          go_wp2
          go_roundg (L.n - j)
          case measure => omega
          case rel => exact ⟨j + 1, by omega, by omega, by go_num, by rw [nw_last _ (Or.inr (Or.inl HE.out))]; exact H1.out, H2.out⟩
        · have q1 : ((j : Int) != (i : Int)) = true := by rw [bne_iff_ne]; omega
          have HE : Hid (j ≠ i ∧ S.kept j = true) := ⟨hji, hk⟩
          simp only [hk] at ck
          clear hji hk
          by_cases hf : L.follow j = true
          · rw [hf] at sf
            have HF : Hid (L.follow j = true) := hf
            clear hf
            go_wp2
            go_roundg (L.n - j)
            case measure => omega
            case rel =>
              refine ⟨j + 1, by omega, by omega, by go_num, ?_, H2.out.setCell (Or.inl (Or.inr (Or.inr (Or.inr rfl)))) _⟩
              rw [nw_step (p := j) _ (by omega) (fun l a c => by omega) HE.out.2 HE.out.1 HF.out]
              exact H1.out.setNews hjx true
          · have hf' : L.follow j = false := by simpa using hf
            rw [hf'] at sf
            have HF : Hid (L.follow j = false) := hf'
            clear hf hf'
            go_wp2
            go_roundg (L.n - j)
            case measure => omega
            case rel => exact ⟨j + 1, by omega, by omega, by go_num, by rw [nw_last _ (Or.inr (Or.inr HF.out))]; exact H1.out, H2.out⟩
      · have hk' : S.kept j = false := by simpa using hk
        simp only [hk'] at ck
        have HF : Hid (S.kept j = false) := hk'
        clear hk hk'
        go_wp2
        go_roundg (L.n - j)
        case measure => omega
        case rel => exact ⟨j + 1, by omega, by omega, by go_num, by rw [nw_last _ (Or.inl HF.out)]; exact H1.out, H2.out⟩
    · go_wp2
      go_end0
      obtain rfl : j = L.n := by omega
      exact ⟨rfl, H1.out, H2.out⟩

end Go.Proofs.Qxb6616570a
