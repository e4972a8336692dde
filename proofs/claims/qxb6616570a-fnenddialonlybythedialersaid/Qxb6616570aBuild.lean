/- build. -/
import Derived.Test.Qxb6616570aMakers
import Derived.Test.Qxb6616570aBld
import Derived.Test.Qxb6616570aWantFns
import Derived.Test.Qxb6616570aFreshS
import Derived.Test.Qxb6616570aPick
import Derived.Deep.OwnRows
set_option linter.unusedSimpArgs false
set_option linter.unusedVariables false
namespace Go.Proofs.Qxb6616570a
open Go.RowKit

theorem info60 : (Try.prog.info? 60).map (fun i => (i.zero, i.size, i.bytes)) = some (some (.pointer none), 1, 8) := by kernel_rfl

structure Six (w w4 : World) (q m h r pb eb n : Nat) (f : Int) (g : Bool) : Prop where
  xq : w4.heap[q]? = some (.cells #[.pointer none, .pointer none, .slice none 0 0, .slice none 0 0] 30)
  xm : w4.heap[m]? = some (.map #[] 0)
  xh : w4.heap[h]? = some (.cells #[.int .i32 0, .int .u32 0, .map (some m), .int .i64 0] 98)
  xr : w4.heap[r]? = some (.cells #[.int .i64 f, .int .u64 0, .int .i64 0, .pointer none, .bool g, .pointer none, .pointer none, .pointer none] 86)
  xpb : w4.heap[pb]? = some (.cells (madeCells #[.pointer none] n) 60)
  xeb : w4.heap[eb]? = some (.cells (madeCells #[.pointer none] n) 37)
  mod : Mod (fun _ => False) w w4
  bq : w.heap.size ≤ q
  bm : w.heap.size ≤ m
  bh : w.heap.size ≤ h
  br : w.heap.size ≤ r
  bpb : w.heap.size ≤ pb
  beb : w.heap.size ≤ eb

theorem bpush_old (h : Array Obj) (o : Obj) (k : Nat) (hk : k < h.size) : (h.push o)[k]? = h[k]? := by
  rw [Array.getElem?_push, if_neg (by omega)]
theorem bpush_new (h : Array Obj) (o : Obj) (k : Nat) (hk : k = h.size) : (h.push o)[k]? = some o := by
  rw [Array.getElem?_push, if_pos hk]

theorem six (w : World) (n : Nat) (f : Int) (g : Bool) : Six w ((((((w.alloc (.cells #[.pointer none, .pointer none, .slice none 0 0, .slice none 0 0] 30)).alloc (.map #[] 0)).alloc (.cells #[.int .i32 0, .int .u32 0, .map (some (w.heap.size + 1)), .int .i64 0] 98)).alloc
      (.cells #[.int .i64 f, .int .u64 0, .int .i64 0, .pointer none, .bool g, .pointer none, .pointer none, .pointer none] 86)).alloc (.cells (madeCells #[.pointer none] n) 60)).alloc (.cells (madeCells #[.pointer none] n) 37))
    w.heap.size (w.heap.size + 1) (w.heap.size + 1 + 1) (w.heap.size + 1 + 1 + 1) (w.heap.size + 1 + 1 + 1 + 1) (w.heap.size + 1 + 1 + 1 + 1 + 1) n f g := by
  constructor
  · show ((((((w.heap.push _).push _).push _).push _).push _).push _)[_]? = _
    rw [bpush_old _ _ _ (by simp <;> omega), bpush_old _ _ _ (by simp <;> omega), bpush_old _ _ _ (by simp <;> omega), bpush_old _ _ _ (by simp <;> omega), bpush_old _ _ _ (by simp <;> omega), bpush_new _ _ _ rfl]
  · show ((((((w.heap.push _).push _).push _).push _).push _).push _)[_]? = _
    rw [bpush_old _ _ _ (by simp <;> omega), bpush_old _ _ _ (by simp <;> omega), bpush_old _ _ _ (by simp <;> omega), bpush_old _ _ _ (by simp <;> omega), bpush_new _ _ _ (by simp)]
  · show ((((((w.heap.push _).push _).push _).push _).push _).push _)[_]? = _
    rw [bpush_old _ _ _ (by simp <;> omega), bpush_old _ _ _ (by simp <;> omega), bpush_old _ _ _ (by simp <;> omega), bpush_new _ _ _ (by simp)]
  · show ((((((w.heap.push _).push _).push _).push _).push _).push _)[_]? = _
    rw [bpush_old _ _ _ (by simp <;> omega), bpush_old _ _ _ (by simp <;> omega), bpush_new _ _ _ (by simp)]
  · show ((((((w.heap.push _).push _).push _).push _).push _).push _)[_]? = _
    rw [bpush_old _ _ _ (by simp <;> omega), bpush_new _ _ _ (by simp)]
  · show ((((((w.heap.push _).push _).push _).push _).push _).push _)[_]? = _
    rw [bpush_new _ _ _ (by simp)]
  · exact ((((((Mod.refl _ _).alloc _).alloc _).alloc _).alloc _).alloc _).alloc _
  all_goals omega

theorem Six.bld {w w4 : World} {q m h r pb eb n : Nat} {f : Int} {g : Bool} (x : Six w w4 q m h r pb eb n f g) (peer : ByteArray) (F : Nat → Bool) : Bld n h r pb eb w.heap.size peer F (fun _ => 0) (fun _ => 0) n w4 :=
  ⟨fun i h1 h2 => by omega, fun i h1 h2 => by omega, ⟨_, x.xpb, size_madeCells _ _, fun i h1 h2 => by omega⟩, ⟨_, x.xeb, size_madeCells _ _, fun i h1 h2 => by omega⟩, fun i j h1 h2 => by omega, fun i j h1 h2 => by omega, fun i h1 h2 => by omega, fun i h1 h2 => by omega, x.mod.size⟩

theorem Bld.cpb {n h r pb eb base : Nat} {peer : ByteArray} {F : Nat → Bool} {P E : Nat → Nat} {p : Nat} {w : World} (B : Bld n h r pb eb base peer F P E p w) {i : Nat} (hi : i < n) : ∃ v, w.cell? ⟨pb, i, none⟩ = some v := by
  obtain ⟨c, h1, h2, _⟩ := B.hpb
  exact ⟨c[i]'(by omega), cell_of h1 (Array.getElem?_eq_getElem (by omega))⟩
theorem Bld.ceb {n h r pb eb base : Nat} {peer : ByteArray} {F : Nat → Bool} {P E : Nat → Nat} {p : Nat} {w : World} (B : Bld n h r pb eb base peer F P E p w) {i : Nat} (hi : i < n) : ∃ v, w.cell? ⟨eb, i, none⟩ = some v := by
  obtain ⟨c, h1, h2, _⟩ := B.heb
  exact ⟨c[i]'(by omega), cell_of h1 (Array.getElem?_eq_getElem (by omega))⟩
theorem Bld.fpb {n h r pb eb base : Nat} {peer : ByteArray} {F : Nat → Bool} {P E : Nat → Nat} {p : Nat} {w : World} (B : Bld n h r pb eb base peer F P E p w) (k : Nat) : w.frozen? ⟨pb, k, none⟩ = false := by
  obtain ⟨c, h1, _⟩ := B.hpb; exact frozen_of h1 k
theorem Bld.feb {n h r pb eb base : Nat} {peer : ByteArray} {F : Nat → Bool} {P E : Nat → Nat} {p : Nat} {w : World} (B : Bld n h r pb eb base peer F P E p w) (k : Nat) : w.frozen? ⟨eb, k, none⟩ = false := by
  obtain ⟨c, h1, _⟩ := B.heb; exact frozen_of h1 k
theorem Bld.lpb {n h r pb eb base : Nat} {peer : ByteArray} {F : Nat → Bool} {P E : Nat → Nat} {p : Nat} {w : World} (B : Bld n h r pb eb base peer F P E p w) : pb < w.heap.size := by
  obtain ⟨c, h1, _⟩ := B.hpb; exact heap_lt h1
theorem Bld.leb {n h r pb eb base : Nat} {peer : ByteArray} {F : Nat → Bool} {P E : Nat → Nat} {p : Nat} {w : World} (B : Bld n h r pb eb base peer F P E p w) : eb < w.heap.size := by
  obtain ⟨c, h1, _⟩ := B.heb; exact heap_lt h1
theorem Bld.npe {n h r pb eb base : Nat} {peer : ByteArray} {F : Nat → Bool} {P E : Nat → Nat} {p : Nat} {w : World} (B : Bld n h r pb eb base peer F P E p w) : pb ≠ eb := by
  obtain ⟨c, h1, _⟩ := B.hpb; obtain ⟨c2, h2, _⟩ := B.heb; exact ne_of_tag h1 h2 (by simp [tag])

theorem Six.rep {w w4 wr : World} {q m h r pb eb n : Nat} {f : Int} {g : Bool} (x : Six w w4 q m h r pb eb n f g) (hm : Mod (fun k => k = pb ∨ k = eb) w4 wr) {peer : ByteArray} {F : Nat → Bool} {P E : Nat → Nat} (B : Bld n h r pb eb w.heap.size peer F P E 0 wr) :
    Rep ⟨n, h, m, r, pb, eb, P, E, peer, F, w.heap.size⟩ (rawB f g n) wr :=
  B.rep (hm.stays x.xh (fun k => by rcases k with k | k; exact ne_of_tag x.xh x.xpb (by simp [tag]) k; exact ne_of_tag x.xh x.xeb (by simp [tag]) k))
    (hm.stays x.xm (fun k => by rcases k with k | k; exact ne_of_tag x.xm x.xpb (by simp [tag]) k; exact ne_of_tag x.xm x.xeb (by simp [tag]) k))
    (hm.stays x.xr (fun k => by rcases k with k | k; exact ne_of_tag x.xr x.xpb (by simp [tag]) k; exact ne_of_tag x.xr x.xeb (by simp [tag]) k)) x.bh x.bm x.br

theorem Six.q' {w w4 wr : World} {q m h r pb eb n : Nat} {f : Int} {g : Bool} (x : Six w w4 q m h r pb eb n f g) (hm : Mod (fun k => k = pb ∨ k = eb) w4 wr) : wr.heap[q]? = some (.cells #[.pointer none, .pointer none, .slice none 0 0, .slice none 0 0] 30) :=
  hm.stays x.xq (fun k => by rcases k with k | k; exact ne_of_tag x.xq x.xpb (by simp [tag]) k; exact ne_of_tag x.xq x.xeb (by simp [tag]) k)

def rawN (f : Int) (g : Bool) (n : Nat) (N : Nat → Bool) (j : Nat) : Raw := { rawB f g n with head := 0, en := fun i => decide (i < j) && N i, pn := fun i => decide (i < j) && N i, ph := fun i => decide (i < j) && N i }
theorem lt_fun (N : Nat → Bool) (j : Nat) : (fun i => decide (i < j + 1) && N i) = upd (fun i => decide (i < j) && N i) j (N j) := by
  funext i; unfold upd; split
  · rename_i e; subst e; simp
  · rename_i e; congr 2; apply propext; constructor <;> intro <;> omega
theorem rawN_skip (f : Int) (g : Bool) (n : Nat) (N : Nat → Bool) (j : Nat) (h : N j = false) : rawN f g n N (j + 1) = rawN f g n N j := by
  have e : upd (fun i => decide (i < j) && N i) j (N j) = (fun i => decide (i < j) && N i) := by
    funext i; unfold upd; split
    · rename_i e; subst e; simp [h]
    · rfl
  unfold rawN; rw [lt_fun, e]
theorem rawN_step (f : Int) (g : Bool) (n : Nat) (N : Nat → Bool) (j : Nat) (h : N j = true) : rawN f g n N (j + 1) = { rawN f g n N j with en := upd (rawN f g n N j).en j true, pn := upd (rawN f g n N j).pn j true, ph := upd (rawN f g n N j).ph j true } := by
  unfold rawN; rw [lt_fun, h]
theorem rawN_zero (f : Int) (g : Bool) (n : Nat) (N : Nat → Bool) : rawN f g n N 0 = { rawB f g n with head := 0 } := by
  have e : (fun i => decide (i < 0) && N i) = fun _ => false := by funext i; simp
  unfold rawN; rw [e]; rfl

theorem good_built {L : Lay} {N : Nat → Bool} {d o f : Int} {g : Bool} (hn : 0 < L.n) (hd0 : -1 ≤ d) (hd1 : d < L.n) (ho0 : -1 ≤ o) (ho1 : o < L.n) : Good L { rawN f g L.n N L.n with dialer := d, offer := o, has := true } (freshS N d o f g L.n) := by
  refine ⟨rfl, rfl, rfl, rfl, rfl, fun j hj => by simp [rawN, rawB, freshS, hj], fun j hj => rfl, fun j hj => rfl, fun j hj => rfl, fun j hj => rfl, fun j hj => ⟨by simp [freshS], by simp [freshS]⟩, ⟨?_, fun j hj _ => ?_⟩, fun j hj h => ?_, ⟨fun _ => ⟨0, hn, by simp [freshS, hn]⟩, fun _ => rfl⟩, hd0, hd1, ho0, ho1⟩
  · exact Or.inr ⟨0, rfl, by omega, hn, by simp [freshS, hn], fun i h1 h2 => by omega⟩
  · show IsFst _ _ _ (if j + 1 < L.n then ((j + 1 : Nat) : Int) else -1)
    by_cases c : j + 1 < L.n
    · rw [if_pos c]; exact Or.inr ⟨j + 1, rfl, by omega, c, by simp [freshS, c], fun i h1 h2 => by omega⟩
    · rw [if_neg c]; exact Or.inl ⟨rfl, fun i h1 h2 => by omega⟩
  · simp [freshS, hj] at h

set_option maxHeartbeats 4000000 in
theorem build_any {w : World} {sb so n cap : Nat} {F N : Nat → Bool} (hs : Specs w sb so n F N) (hm : n ≤ 65536) (peer : ByteArray) (d o f : Int) (g : Bool) (hd0 : -1 ≤ d) (hd1 : d < n) (ho0 : -1 ≤ o) (ho1 : o < n) :
    Calls Try.prog 12 #[.string peer, .slice (some ⟨sb, so, none⟩) n cap, .int .i64 d, .int .i64 o, .int .i64 f, .bool g] w fun e w' => ∃ L : Lay, L.n = n ∧ L.peer = peer ∧ L.follow = F ∧ L.base = w.heap.size ∧ e = .returned (.agg #[ptr L.h, ptr L.r, .slice (some ⟨L.pb, 0, none⟩) n n, .slice (some ⟨L.eb, 0, none⟩) n n]) ∧ Hold L (freshS N d o f g n) w' ∧ Mod (fun _ => False) w w' := by
  have HS : Hid (Specs w sb so n F N) := hs
  have m4 := run_make_row' (P := Try.prog) 27 60 (.pointer none) 8 Try.underlying27 info60 rfl .i64 .i64 n (by omega) (by omega)
  have m5 := run_make_row' (P := Try.prog) 28 37 (.pointer none) 8 Try.underlying28 info37 rfl .i64 .i64 n (by omega) (by omega)
  clear hs
  go_enter Try.func12, Try.ntmps12
  go_wp2_with (first | (go_at_call 28; refine (newHistory_any _).mono ?_; rintro e w' ⟨rfl, rfl⟩) | (go_at_call 29; refine (newRecord_any _ _ _).mono ?_; rintro e w' ⟨rfl, rfl⟩))
  have X := six w n f g
  generalize (((((w.alloc (.cells #[.pointer none, .pointer none, .slice none 0 0, .slice none 0 0] 30)).alloc (.map #[] 0)).alloc (.cells #[.int .i32 0, .int .u32 0, .map (some (w.heap.size + 1)), .int .i64 0] 98)).alloc
      (.cells #[.int .i64 f, .int .u64 0, .int .i64 0, .pointer none, .bool g, .pointer none, .pointer none, .pointer none] 86)).alloc (.cells (madeCells #[.pointer none] n) 60)).alloc (.cells (madeCells #[.pointer none] n) 37) = w4 at X ⊢
  generalize w.heap.size + 1 + 1 + 1 + 1 + 1 = eb at X ⊢
  generalize w.heap.size + 1 + 1 + 1 + 1 = pb at X ⊢
  generalize w.heap.size + 1 + 1 + 1 = r at X ⊢
  generalize w.heap.size + 1 + 1 = h at X ⊢
  generalize w.heap.size + 1 = m at X ⊢
  have HX : Hid (Six w w4 w.heap.size m h r pb eb n f g) := X
  have hsz : sb < w4.heap.size := Nat.lt_of_lt_of_le HS.out.lt X.mod.size
  have hs4 := HS.out.mod X.mod id
  have HS4 : Hid (Specs w4 sb so n F N) := hs4
  have HNS : Hid (sb ≠ pb ∧ sb ≠ eb) := ⟨by have := HS.out.lt; have := X.bpb; omega, by have := HS.out.lt; have := X.beb; omega⟩
  clear X hs4 m4 m5
  go_loopg [18, 19] (n + 1) (fun gg nxt jv wr => ∃ (p : Nat) (P E : Nat → Nat), p ≤ n ∧ p < gg ∧ jv = .int .i64 ((p : Int) - 1) ∧ nxt = .pointer (nxA E n p) ∧ Bld n h r pb eb w.heap.size peer F P E p wr ∧ Mod (fun k => k = pb ∨ k = eb) w4 wr)
  case atStart => exact ⟨n, fun _ => 0, fun _ => 0, Nat.le_refl _, by omega, rfl, by simp [nxA], HX.out.bld peer F, Mod.refl _ _⟩
  case round =>
    obtain ⟨p, P, E, hp, hgp, rfl, rfl, hB, hM⟩ := hrel
    have HB : Hid (Bld n h r pb eb w.heap.size peer F P E p wr) := hB
    have HM : Hid (Mod (fun k => k = pb ∨ k = eb) w4 wr) := hM
    clear hB hM
    cases p with
    | zero =>
      obtain ⟨L, hLn, hLh, hLm, hLr, hLpb, hLeb, hLP, hLE, hLp, hLF, hLb, r0⟩ : ∃ L : Lay, L.n = n ∧ L.h = h ∧ L.m = m ∧ L.r = r ∧ L.pb = pb ∧ L.eb = eb ∧ L.P = P ∧ L.E = E ∧ L.peer = peer ∧ L.follow = F ∧ L.base = w.heap.size ∧ Rep L (rawB f g n) wr :=
        ⟨⟨n, h, m, r, pb, eb, P, E, peer, F, w.heap.size⟩, rfl, rfl, rfl, rfl, rfl, rfl, rfl, rfl, rfl, rfl, rfl, HX.out.rep HM.out HB.out⟩
      have hq := HX.out.q' HM.out
      subst hLn hLh hLm hLr hLpb hLeb hLP hLE hLp hLF
      have hspos := HS.out.pos
      have ea0 : nxA L.E L.n 0 = L.ea 0 := by simp [nxA, Lay.ea, hspos]
      have hsr := HS4.out.mod HM.out (fun k => by rcases k with k | k; exact HNS.out.1 k; exact HNS.out.2 k)
      have HSR : Hid (Specs wr sb so L.n L.follow N) := hsr
      have r1 := r0.setHead 0
      rw [ep_ea, ← rawN_zero f g L.n N] at r1
      have HM0 : Hid (Mod (fun _ => False) w wr) := (HX.out.mod.mono (N := fun k => w.heap.size ≤ k) (fun _ _ h => h.elim)).trans (HM.out.mono (N := fun k => w.heap.size ≤ k) (fun k _ h => by
        have := HX.out.bpb; have := HX.out.beb; rcases h with h | h <;> omega)) |>.mono (fun k hk h => by omega)
      have HQ : Hid (wr.heap[w.heap.size]? = some (.cells #[.pointer none, .pointer none, .slice none 0 0, .slice none 0 0] 30)) := hq
      have c7 := r0.cr7
      have f7 := r0.fr 7
      have HNQ : Hid (¬ L.own w.heap.size) := fun k => by have := r0.own_tag k hq; simp [tag] at this
      have HNB : Hid (¬ L.own sb) := fun k => by have := r0.own_base sb k; rw [hLb] at this; have := HS.out.lt; omega
      have HLB : Hid (L.base = w.heap.size) := hLb
      clear r0 hq hsr hLb HX HS4 HNS HB HM hsz
      rw [ea0]
      clear ea0
      go_wp2_with fail
      refine (setEntries_any L.r (L.ea 0) _ _ c7 f7).mono ?_
      rintro e w' ⟨rfl, rfl⟩
      have HM1 : Hid (Mod L.own wr (wr.setCell ⟨L.r, 7, none⟩ (.pointer (L.ea 0)))) := (Mod.refl _ _).setCell (Or.inl (own_r L)) _
      have HR1 : Hid (Rep L (rawN f g L.n N 0) (wr.setCell ⟨L.r, 7, none⟩ (.pointer (L.ea 0)))) := r1
      clear r1 c7 f7
      generalize wr.setCell ⟨L.r, 7, none⟩ (.pointer (L.ea 0)) = w5 at HM1 HR1 ⊢
      go_wp2_with fail
      go_loopg [22] (L.n + 1) (fun gg v wx => ∃ j : Nat, j ≤ L.n ∧ j + gg = L.n + 1 ∧ v = .int .i64 j ∧ Rep L (rawN f g L.n N j) wx ∧ Mod L.own w5 wx)
      case atStart => exact ⟨0, by omega, by omega, rfl, HR1.out, Mod.refl _ _⟩
      case round =>
        obtain ⟨j, hj, hgg, rfl, hrx, hmx⟩ := hrel
        have H1 : Hid (Rep L (rawN f g L.n N j) wr) := hrx
        have H2 : Hid (Mod L.own w5 wr) := hmx
        clear hrx hmx
        by_cases hlt : j < L.n
        · have sg := ((HSR.out.mod HM1.out HNB.out).mod H2.out HNB.out).g j hlt
          have ce := H1.out.ceb hlt
          have q2 : (0 : Int) ≤ (j : Int) := by omega
          have q3 : (j : Int) < (L.n : Int) := by omega
          by_cases hN : N j = true
          · rw [hN] at sg
            have HN : Hid (N j = true) := hN
            clear hN
            go_wp2_with fail
            refine (markNews_any H1.out hlt (by simp [rawN])).mono ?_
            rintro e w' ⟨rfl, r2, m2⟩
            have HR2 : Hid (Rep L (rawN f g L.n N (j + 1)) w') := by rw [rawN_step _ _ _ _ _ HN.out]; exact r2
            have HM2 : Hid (Mod L.own wr w') := m2
            clear r2 m2
            go_wp2
            go_roundg (L.n - j)
            case measure => omega
            case rel => exact ⟨j + 1, by omega, by omega, by go_num, HR2.out, H2.out.trans HM2.out⟩
          · have hN' : N j = false := by simpa using hN
            rw [hN'] at sg
            have HN : Hid (N j = false) := hN'
            clear hN hN'
            go_wp2
            go_roundg (L.n - j)
            case measure => omega
            case rel => exact ⟨j + 1, by omega, by omega, by go_num, by rw [rawN_skip _ _ _ _ _ HN.out]; exact H1.out, H2.out⟩
        · obtain rfl : j = L.n := by omega
          have c5 := H1.out.cr5
          have c6 := H1.out.cr6
          have fr := H1.out.fr
          go_wp2_with fail
          refine (pick_ep H1.out d hd1).mono ?_
          rintro e w' ⟨rfl, rfl⟩
          go_wp2_with fail
          refine (pick_ep H1.out o ho1).mono ?_
          rintro e w' ⟨rfl, rfl⟩
          go_wp2_with fail
          refine (setDialer_any L.r (L.ea d) (L.ea o) _ _ _ c5 c6 fr).mono ?_
          rintro e w' ⟨rfl, rfl⟩
          have r2 := (H1.out.setDialer d).setOffer o
          rw [ep_ea, ep_ea] at r2
          have HR2 : Hid (Rep L { rawN f g L.n N L.n with dialer := d, offer := o } ((wr.setCell ⟨L.r, 5, none⟩ (.pointer (L.ea d))).setCell ⟨L.r, 6, none⟩ (.pointer (L.ea o)))) := r2
          have HM2 : Hid (Mod L.own wr ((wr.setCell ⟨L.r, 5, none⟩ (.pointer (L.ea d))).setCell ⟨L.r, 6, none⟩ (.pointer (L.ea o)))) := ((Mod.refl _ _).setCell (Or.inl (own_r L)) _).setCell (Or.inl (own_r L)) _
          clear r2 c5 c6 fr
          generalize (wr.setCell ⟨L.r, 5, none⟩ (.pointer (L.ea d))).setCell ⟨L.r, 6, none⟩ (.pointer (L.ea o)) = w6 at HR2 HM2 ⊢
          obtain ⟨born, clk, hmm⟩ := HR2.out.hm
          have HMM : Hid (w6.heap[L.m]? = some (.map #[] clk)) := hmm
          clear hmm
          go_wp2_with fail
          refine (putPeer_any L.h L.m L.peer (.pointer (some ⟨L.r, 0, none⟩)) clk _ HR2.out.ch2 HMM.out).mono ?_
          rintro e w' ⟨rfl, rfl⟩
          have HR3 : Hid (Rep L { rawN f g L.n N L.n with dialer := d, offer := o, has := true } (setMap w6 L.m (.map #[{ key := .string L.peer, val := .pointer (some ⟨L.r, 0, none⟩), born := clk }] (clk + 1)))) := HR2.out.setM true clk (clk + 1)
          have HM3 : Hid (Mod L.own w6 (setMap w6 L.m (.map #[{ key := .string L.peer, val := .pointer (some ⟨L.r, 0, none⟩), born := clk }] (clk + 1)))) := (Mod.refl _ _).setMap (own_m L) _
          clear HMM
          generalize setMap w6 L.m (.map #[{ key := .string L.peer, val := .pointer (some ⟨L.r, 0, none⟩), born := clk }] (clk + 1)) = w7 at HR3 HM3 ⊢
          have hm4 := ((HM1.out.trans H2.out).trans HM2.out).trans HM3.out
          have hq := hm4.stays HQ.out HNQ.out
          have HM4 : Hid (Mod (fun _ => False) w w7) := ((HM0.out.mono (N := fun k => w.heap.size ≤ k) (fun _ _ h => h.elim)).trans (hm4.mono (N := fun k => w.heap.size ≤ k) (fun k _ h => by have := HR3.out.own_base k h; rw [HLB.out] at this; exact this))).mono (fun k hk h => by omega)
          clear hm4
          have k0 : w7.cell? ⟨w.heap.size, 0, none⟩ = some (.pointer none) := cell_of hq rfl
          have k1 : w7.cell? ⟨w.heap.size, 1, none⟩ = some (.pointer none) := cell_of hq rfl
          have k2 : w7.cell? ⟨w.heap.size, 2, none⟩ = some (.slice none 0 0) := cell_of hq rfl
          have k3 : w7.cell? ⟨w.heap.size, 3, none⟩ = some (.slice none 0 0) := cell_of hq rfl
          have fq := frozen_of hq
          have HQ2 : Hid _ := hq
          clear hq
          go_wp2
          have z1 := heap_set_same (k := 0) HQ2.out (.pointer (some ⟨L.h, 0, none⟩))
          have z2 := heap_set_same (k := 1) z1 (.pointer (some ⟨L.r, 0, none⟩))
          have z3 := heap_set_same (k := 2) z2 (.slice (some ⟨L.pb, 0, none⟩) L.n L.n)
          have z4 := heap_set_same (k := 3) z3 (.slice (some ⟨L.eb, 0, none⟩) L.n L.n)
          have mm := ((((Mod.refl (fun k => k = w.heap.size) w7).setCell (p := ⟨w.heap.size, 0, none⟩) (Or.inl rfl) (.pointer (some ⟨L.h, 0, none⟩))).setCell (p := ⟨w.heap.size, 1, none⟩) (Or.inl rfl) (.pointer (some ⟨L.r, 0, none⟩))).setCell (p := ⟨w.heap.size, 2, none⟩) (Or.inl rfl) (.slice (some ⟨L.pb, 0, none⟩) L.n L.n)).setCell (p := ⟨w.heap.size, 3, none⟩) (Or.inl rfl) (.slice (some ⟨L.eb, 0, none⟩) L.n L.n)
          clear k0 k1 k2 k3 fq z1 z2 z3
          generalize (((w7.setCell ⟨w.heap.size, 0, none⟩ (.pointer (some ⟨L.h, 0, none⟩))).setCell ⟨w.heap.size, 1, none⟩ (.pointer (some ⟨L.r, 0, none⟩))).setCell ⟨w.heap.size, 2, none⟩ (.slice (some ⟨L.pb, 0, none⟩) L.n L.n)).setCell ⟨w.heap.size, 3, none⟩ (.slice (some ⟨L.eb, 0, none⟩) L.n L.n) = W at z4 mm ⊢
          have k0 : W.cell? ⟨w.heap.size, 0, none⟩ = some (.pointer (some ⟨L.h, 0, none⟩)) := cell_of z4 rfl
          have k1 : W.cell? ⟨w.heap.size, 1, none⟩ = some (.pointer (some ⟨L.r, 0, none⟩)) := cell_of z4 rfl
          have k2 : W.cell? ⟨w.heap.size, 2, none⟩ = some (.slice (some ⟨L.pb, 0, none⟩) L.n L.n) := cell_of z4 rfl
          have k3 : W.cell? ⟨w.heap.size, 3, none⟩ = some (.slice (some ⟨L.eb, 0, none⟩) L.n L.n) := cell_of z4 rfl
          refine bodyPost_ret (v := .agg #[ptr L.h, ptr L.r, .slice (some ⟨L.pb, 0, none⟩) L.n L.n, .slice (some ⟨L.eb, 0, none⟩) L.n L.n]) (by simp [results, Try.results12, go_sem, k0, k1, k2, k3]) rfl ⟨L, rfl, rfl, rfl, HLB.out, rfl, ⟨_, HR3.out.mod mm (fun k o hk ho => ?_), good_built hspos hd0 hd1 ho0 ho1⟩, ?_⟩
          · subst hk; rw [HQ2.out] at ho; cases ho; simp [tag]
          · exact ((HM4.out.mono (N := fun k => w.heap.size ≤ k) (fun _ _ h => h.elim)).trans (mm.mono (N := fun k => w.heap.size ≤ k) (fun k _ h => by omega))).mono (fun k hk h => by omega)
    | succ p =>
      rw [show ((p + 1 : Nat) : Int) - 1 = (p : Int) by omega]
      have sf := (HS4.out.mod HM.out (fun k => by rcases k with k | k; exact HNS.out.1 k; exact HNS.out.2 k)).f p (by omega)
      have q2 : (0 : Int) ≤ (p : Int) := by omega
      have q3 : (p : Int) < (n : Int) := by omega
      obtain ⟨v1, cp⟩ := HB.out.cpb (i := p) (by omega)
      obtain ⟨v2, ce⟩ := HB.out.ceb (i := p) (by omega)
      have fp := HB.out.fpb p
      have fe := HB.out.feb p
      have lp := HB.out.lpb
      have le := HB.out.leb
      have npe := HB.out.npe
      go_wp2_with (first | (go_at_call 30; refine (newPart_any _ _ _).mono ?_; rintro e w' ⟨rfl, rfl⟩) | (go_at_call 31; refine (newEntry_any _ _ _ _ _).mono ?_; rintro e w' ⟨rfl, rfl⟩))
      go_roundg (p + 1)
      case measure => omega
      case rel =>
        refine ⟨p, _, _, by omega, by omega, rfl, ?_, HB.out.step' (by omega), ?_⟩
        · simp [nxA, upd_same, show p < n by omega]
        · exact (((HM.out.setCell (Or.inl (Or.inl rfl)) _).setCell (Or.inl (Or.inr rfl)) _).alloc _).alloc _

end Go.Proofs.Qxb6616570a
