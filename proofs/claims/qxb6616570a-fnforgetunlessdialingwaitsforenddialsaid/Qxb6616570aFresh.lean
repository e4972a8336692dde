/- fresh. -/
import Derived.Test.Qxb6616570aWantFns
import Derived.Test.Qxb6616570aFreshS
import Derived.Deep.OwnRows
import Derived.Deep.DeepCutAuto
import Derived.Deep.Light
set_option linter.unusedSimpArgs false
set_option linter.unusedVariables false
namespace Go.Proofs.Qxb6616570a
open Go.RowKit

theorem info4 : (Try.prog.info? 4).map (fun i => (i.zero, i.size, i.bytes)) = some (some (.bool false), 1, 1) := by kernel_rfl
theorem info5 : (Try.prog.info? 5).map (fun i => (i.zero, i.size, i.bytes)) = some (some (.int .u8 0), 1, 1) := by kernel_rfl

theorem made_row {w : World} {b : Nat} {t : TypeId} {n : Nat} {z : Value} (h : w.heap[b]? = some (.cells (madeCells #[z] n) t)) : RowAt w b t n (fun _ => z) :=
  ⟨_, h, fun j hj => by simp [madeCells, hj, Nat.mod_one]⟩

section
variable (w : World) (A B C D : Obj)
theorem push_old (h : Array Obj) (o : Obj) (k : Nat) (hk : k < h.size) : (h.push o)[k]? = h[k]? := by
  rw [Array.getElem?_push, if_neg (by omega)]
theorem push_new (h : Array Obj) (o : Obj) (k : Nat) (hk : k = h.size) : (h.push o)[k]? = some o := by
  rw [Array.getElem?_push, if_pos hk]
theorem four0 : (((((w.alloc A).alloc B).alloc C).alloc D).drew).heap[w.heap.size]? = some A := by
  show ((((w.heap.push A).push B).push C).push D)[w.heap.size]? = some A
  rw [push_old _ _ _ (by simp <;> omega), push_old _ _ _ (by simp <;> omega), push_old _ _ _ (by simp), push_new _ _ _ rfl]
theorem four1 : (((((w.alloc A).alloc B).alloc C).alloc D).drew).heap[w.heap.size + 1]? = some B := by
  show ((((w.heap.push A).push B).push C).push D)[w.heap.size + 1]? = some B
  rw [push_old _ _ _ (by simp <;> omega), push_old _ _ _ (by simp), push_new _ _ _ (by simp)]
theorem four2 : (((((w.alloc A).alloc B).alloc C).alloc D).drew).heap[w.heap.size + 1 + 1]? = some C := by
  show ((((w.heap.push A).push B).push C).push D)[w.heap.size + 1 + 1]? = some C
  rw [push_old _ _ _ (by simp), push_new _ _ _ (by simp)]
theorem four3 : (((((w.alloc A).alloc B).alloc C).alloc D).drew).heap[w.heap.size + 1 + 1 + 1]? = some D := by
  show ((((w.heap.push A).push B).push C).push D)[w.heap.size + 1 + 1 + 1]? = some D
  rw [push_new _ _ _ (by simp)]
theorem fourM : Mod (fun _ => False) w ((((w.alloc A).alloc B).alloc C).alloc D).drew := (((((Mod.refl _ _).alloc _).alloc _).alloc _).alloc _).drew
end
theorem fresh_close {w1 W : World} {xb kb ob nb n : Nat} {N : Nat → Bool} {d o f : Int} {g : Bool}
    (hx : W.heap[xb]? = some (.cells #[.slice (some ⟨kb, 0, none⟩) n n, .int .i64 d, .int .i64 o, .slice (some ⟨ob, 0, none⟩) n n, .slice (some ⟨nb, 0, none⟩) n n, .int .i64 f, .bool g] 35))
    (hk : W.heap[kb]? = some (.cells (madeCells #[.bool false] n) 4)) (ho : W.heap[ob]? = some (.cells (madeCells #[.int .u8 0] n) 5)) (hn : W.heap[nb]? = some (.cells (madeCells #[.bool false] n) 4))
    (ne : kb ≠ nb) (h1 : w1.heap.size ≤ xb) (h2 : w1.heap.size ≤ kb) (h3 : w1.heap.size ≤ ob) (h4 : w1.heap.size ≤ nb) (hm : Mod (fun _ => False) w1 W) :
    ∃ (xb' : Nat) (X : XLay), Value.pointer (some ⟨xb, 0, none⟩) = .pointer (some ⟨xb', 0, none⟩) ∧ X.n = n ∧ w1.heap.size ≤ xb' ∧ w1.heap.size ≤ X.kb ∧ w1.heap.size ≤ X.ob ∧ w1.heap.size ≤ X.nb ∧ XRep X xb' (freshS N d o f g 0) W ∧ Mod (fun _ => False) w1 W :=
  ⟨xb, ⟨n, kb, ob, nb⟩, rfl, rfl, h1, h2, h3, h4, ⟨⟨(made_row hk).congr (fun j _ => by simp [freshS]), (made_row ho).congr (fun j _ => by simp [freshS]), (made_row hn).congr (fun j _ => by simp [freshS]), ne⟩, hx⟩, hm⟩

theorem freshS_kept (N : Nat → Bool) (d o f : Int) (g : Bool) (j : Nat) : upd (freshS N d o f g j).kept j true = (freshS N d o f g (j + 1)).kept := by
  funext l; unfold upd; split
  · rename_i e; subst e; simp [freshS]
  · rename_i e; simp only [freshS]; congr 1; apply propext; constructor <;> intro <;> omega
theorem freshS_news (N : Nat → Bool) (d o f : Int) (g : Bool) (j : Nat) : upd (freshS N d o f g j).news j (N j) = (freshS N d o f g (j + 1)).news := by
  funext l; unfold upd; split
  · rename_i e; subst e; simp [freshS]
  · rename_i e; simp only [freshS]; congr 2; apply propext; constructor <;> intro <;> omega

set_option maxHeartbeats 4000000 in
theorem fresh_any {w : World} {sb so n cap : Nat} {F N : Nat → Bool} (hs : Specs w sb so n F N) (hm : n ≤ 65536) (d o f : Int) (g : Bool) :
    Calls Try.prog 13 #[.slice (some ⟨sb, so, none⟩) n cap, .int .i64 d, .int .i64 o, .int .i64 f, .bool g] w fun e w' => ∃ X : XLay, X.n = n ∧ w.heap.size ≤ X.kb ∧ w.heap.size ≤ X.ob ∧ w.heap.size ≤ X.nb ∧
      e = .returned (.agg (X.xC (freshS N d o f g n))) ∧ XArr X (freshS N d o f g n) w' ∧ Mod (fun _ => False) w w' := by
  have HS : Hid (Specs w sb so n F N) := hs
  have m4 := run_make_row' (P := Try.prog) 32 4 (.bool false) 1 Try.underlying32 info4 rfl .i64 .i64 n (by omega) (by omega)
  have m5 := run_make_row' (P := Try.prog) 33 5 (.int .u8 0) 1 Try.underlying33 info5 rfl .i64 .i64 n (by omega) (by omega)
  clear hs
  go_enter Try.func13, Try.ntmps13
  go_upto_region 2 with fail
  have HQ : Hid ((w.alloc (.cells #[.slice none 0 0, .int .i64 0, .int .i64 0, .slice none 0 0, .slice none 0 0, .int .i64 0, .bool false] 35)).heap[w.heap.size]? = some (.cells #[.slice none 0 0, .int .i64 0, .int .i64 0, .slice none 0 0, .slice none 0 0, .int .i64 0, .bool false] 35)) := heap_alloc_new w _
  have HM1 : Hid (Mod (fun _ => False) w (w.alloc (.cells #[.slice none 0 0, .int .i64 0, .int .i64 0, .slice none 0 0, .slice none 0 0, .int .i64 0, .bool false] 35))) := (Mod.refl _ _).alloc _
  generalize w.alloc (.cells #[.slice none 0 0, .int .i64 0, .int .i64 0, .slice none 0 0, .slice none 0 0, .int .i64 0, .bool false] 35) = w1 at HQ HM1 ⊢
  go_cut [12] (fun s wx => ∃ (xb : Nat) (X : XLay), s = .pointer (some ⟨xb, 0, none⟩) ∧ X.n = n ∧ w1.heap.size ≤ xb ∧ w1.heap.size ≤ X.kb ∧ w1.heap.size ≤ X.ob ∧ w1.heap.size ≤ X.nb ∧ XRep X xb (freshS N d o f g 0) wx ∧ Mod (fun _ => False) w1 wx)
  case first =>
    go_region
    all_goals go_wp2_with fail
    all_goals go_meet
    all_goals go_light
    all_goals first | exact fresh_close (four0 _ _ _ _ _) (four1 _ _ _ _ _) (four2 _ _ _ _ _) (four3 _ _ _ _ _) (by omega) (by omega) (by omega) (by omega) (by omega) (fourM _ _ _ _ _) | exact fresh_close (four0 _ _ _ _ _) (four1 _ _ _ _ _) (four3 _ _ _ _ _) (four2 _ _ _ _ _) (by omega) (by omega) (by omega) (by omega) (by omega) (fourM _ _ _ _ _) | exact fresh_close (four0 _ _ _ _ _) (four2 _ _ _ _ _) (four1 _ _ _ _ _) (four3 _ _ _ _ _) (by omega) (by omega) (by omega) (by omega) (by omega) (fourM _ _ _ _ _) | exact fresh_close (four0 _ _ _ _ _) (four2 _ _ _ _ _) (four3 _ _ _ _ _) (four1 _ _ _ _ _) (by omega) (by omega) (by omega) (by omega) (by omega) (fourM _ _ _ _ _) | exact fresh_close (four0 _ _ _ _ _) (four3 _ _ _ _ _) (four1 _ _ _ _ _) (four2 _ _ _ _ _) (by omega) (by omega) (by omega) (by omega) (by omega) (fourM _ _ _ _ _) | exact fresh_close (four0 _ _ _ _ _) (four3 _ _ _ _ _) (four2 _ _ _ _ _) (four1 _ _ _ _ _) (by omega) (by omega) (by omega) (by omega) (by omega) (fourM _ _ _ _ _) | exact fresh_close (four1 _ _ _ _ _) (four0 _ _ _ _ _) (four2 _ _ _ _ _) (four3 _ _ _ _ _) (by omega) (by omega) (by omega) (by omega) (by omega) (fourM _ _ _ _ _) | exact fresh_close (four1 _ _ _ _ _) (four0 _ _ _ _ _) (four3 _ _ _ _ _) (four2 _ _ _ _ _) (by omega) (by omega) (by omega) (by omega) (by omega) (fourM _ _ _ _ _) | exact fresh_close (four1 _ _ _ _ _) (four2 _ _ _ _ _) (four0 _ _ _ _ _) (four3 _ _ _ _ _) (by omega) (by omega) (by omega) (by omega) (by omega) (fourM _ _ _ _ _) | exact fresh_close (four1 _ _ _ _ _) (four2 _ _ _ _ _) (four3 _ _ _ _ _) (four0 _ _ _ _ _) (by omega) (by omega) (by omega) (by omega) (by omega) (fourM _ _ _ _ _) | exact fresh_close (four1 _ _ _ _ _) (four3 _ _ _ _ _) (four0 _ _ _ _ _) (four2 _ _ _ _ _) (by omega) (by omega) (by omega) (by omega) (by omega) (fourM _ _ _ _ _) | exact fresh_close (four1 _ _ _ _ _) (four3 _ _ _ _ _) (four2 _ _ _ _ _) (four0 _ _ _ _ _) (by omega) (by omega) (by omega) (by omega) (by omega) (fourM _ _ _ _ _) | exact fresh_close (four2 _ _ _ _ _) (four0 _ _ _ _ _) (four1 _ _ _ _ _) (four3 _ _ _ _ _) (by omega) (by omega) (by omega) (by omega) (by omega) (fourM _ _ _ _ _) | exact fresh_close (four2 _ _ _ _ _) (four0 _ _ _ _ _) (four3 _ _ _ _ _) (four1 _ _ _ _ _) (by omega) (by omega) (by omega) (by omega) (by omega) (fourM _ _ _ _ _) | exact fresh_close (four2 _ _ _ _ _) (four1 _ _ _ _ _) (four0 _ _ _ _ _) (four3 _ _ _ _ _) (by omega) (by omega) (by omega) (by omega) (by omega) (fourM _ _ _ _ _) | exact fresh_close (four2 _ _ _ _ _) (four1 _ _ _ _ _) (four3 _ _ _ _ _) (four0 _ _ _ _ _) (by omega) (by omega) (by omega) (by omega) (by omega) (fourM _ _ _ _ _) | exact fresh_close (four2 _ _ _ _ _) (four3 _ _ _ _ _) (four0 _ _ _ _ _) (four1 _ _ _ _ _) (by omega) (by omega) (by omega) (by omega) (by omega) (fourM _ _ _ _ _) | exact fresh_close (four2 _ _ _ _ _) (four3 _ _ _ _ _) (four1 _ _ _ _ _) (four0 _ _ _ _ _) (by omega) (by omega) (by omega) (by omega) (by omega) (fourM _ _ _ _ _) | exact fresh_close (four3 _ _ _ _ _) (four0 _ _ _ _ _) (four1 _ _ _ _ _) (four2 _ _ _ _ _) (by omega) (by omega) (by omega) (by omega) (by omega) (fourM _ _ _ _ _) | exact fresh_close (four3 _ _ _ _ _) (four0 _ _ _ _ _) (four2 _ _ _ _ _) (four1 _ _ _ _ _) (by omega) (by omega) (by omega) (by omega) (by omega) (fourM _ _ _ _ _) | exact fresh_close (four3 _ _ _ _ _) (four1 _ _ _ _ _) (four0 _ _ _ _ _) (four2 _ _ _ _ _) (by omega) (by omega) (by omega) (by omega) (by omega) (fourM _ _ _ _ _) | exact fresh_close (four3 _ _ _ _ _) (four1 _ _ _ _ _) (four2 _ _ _ _ _) (four0 _ _ _ _ _) (by omega) (by omega) (by omega) (by omega) (by omega) (fourM _ _ _ _ _) | exact fresh_close (four3 _ _ _ _ _) (four2 _ _ _ _ _) (four0 _ _ _ _ _) (four1 _ _ _ _ _) (by omega) (by omega) (by omega) (by omega) (by omega) (fourM _ _ _ _ _) | exact fresh_close (four3 _ _ _ _ _) (four2 _ _ _ _ _) (four1 _ _ _ _ _) (four0 _ _ _ _ _) (by omega) (by omega) (by omega) (by omega) (by omega) (fourM _ _ _ _ _)
  case rest =>
    obtain ⟨xb, X, rfl, hXn, b0, b1, b2, b3, hx, hmm⟩ := hcut
    subst hXn
    have HX : Hid (XRep X xb (freshS N d o f g 0) wc) := hx
    have HMC : Hid (Mod (fun _ => False) w1 wc) := hmm
    have hsb : sb < w1.heap.size := Nat.lt_of_lt_of_le HS.out.lt HM1.out.size
    have HSB : Hid (¬ X.own xb sb) := by
      intro k
      rcases k with k | k | k | k <;> omega
    have hqlt := heap_lt HQ.out
    have HNQ : Hid (¬ X.own xb w.heap.size) := by
      intro k
      rcases k with k | k | k | k <;> omega
    clear hx hmm m4 m5 hsb
    go_wp2_with fail
    go_loopg [13] (X.n + 1) (fun gg v wr => ∃ j : Nat, j ≤ X.n ∧ j + gg = X.n + 1 ∧ v = .int .i64 j ∧ XRep X xb (freshS N d o f g j) wr ∧ Mod (X.own xb) wc wr)
    case atStart => exact ⟨0, by omega, by omega, rfl, HX.out, Mod.refl _ _⟩
    case round =>
      obtain ⟨j, hj, hgg, rfl, hx, hmm⟩ := hrel
      have H1 : Hid (XRep X xb (freshS N d o f g j) wr) := hx
      have H2 : Hid (Mod (X.own xb) wc wr) := hmm
      clear hx hmm
      by_cases hlt : j < X.n
      · have c0 := H1.out.c0
        have ck := H1.out.arr.hk.cell hlt
        have fk := H1.out.arr.hk.froz j
        have q2 : (0 : Int) ≤ (j : Int) := by omega
        have q3 : (j : Int) < (X.n : Int) := by omega
        go_upto_region 7 with fail
        have r1 := H1.out.setKept hlt true
        have HR1 : Hid (XRep X xb { freshS N d o f g j with kept := (freshS N d o f g (j + 1)).kept } (wr.setCell ⟨X.kb, j, none⟩ (.bool true))) := by rw [freshS_kept] at r1; exact r1
        have HM1' : Hid (Mod (X.own xb) wr (wr.setCell ⟨X.kb, j, none⟩ (.bool true))) := (Mod.refl _ _).setCell (Or.inl (Or.inr (Or.inl rfl))) _
        clear r1 c0 ck fk
        generalize wr.setCell ⟨X.kb, j, none⟩ (.bool true) = w5 at HR1 HM1' ⊢
        have c4 := HR1.out.c4
        have cn := HR1.out.arr.hn.cell hlt
        have fn := HR1.out.arr.hn.froz j
        have hsp := HS.out.mod (HM1.out.trans HMC.out) id
        have sg := ((hsp.mod H2.out HSB.out).mod HM1'.out HSB.out).g j hlt
        have HSP : Hid _ := hsp
        clear hsp
        go_region
        go_wp2
        go_roundg (X.n - j)
        case measure => omega
        case rel =>
          refine ⟨j + 1, by omega, by omega, by go_num, ?_, ?_⟩
          · have r2 := HR1.out.setNews hlt (N j)
            have e : ({ freshS N d o f g j with kept := (freshS N d o f g (j + 1)).kept, news := upd (freshS N d o f g j).news j (N j) } : St) = freshS N d o f g (j + 1) := by
              rw [freshS_news]; rfl
            rw [← e]
            exact r2.still ((Mod.refl _ _).drew)
          · exact ((H2.out.trans HM1'.out).setCell (Or.inl (Or.inr (Or.inr (Or.inr rfl)))) _).drew
      · have c0 := H1.out.c0
        have c1 := H1.out.c1
        have c2 := H1.out.c2
        have c3 := H1.out.c3
        have c4 := H1.out.c4
        have c5 := H1.out.c5
        have c6 := H1.out.c6
        have hq := H2.out.stays (HMC.out.stays HQ.out id) HNQ.out
        have k0 : wr.cell? ⟨w.heap.size, 0, none⟩ = some (.slice none 0 0) := cell_of hq rfl
        have k1 : wr.cell? ⟨w.heap.size, 1, none⟩ = some (.int .i64 0) := cell_of hq rfl
        have k2 : wr.cell? ⟨w.heap.size, 2, none⟩ = some (.int .i64 0) := cell_of hq rfl
        have k3 : wr.cell? ⟨w.heap.size, 3, none⟩ = some (.slice none 0 0) := cell_of hq rfl
        have k4 : wr.cell? ⟨w.heap.size, 4, none⟩ = some (.slice none 0 0) := cell_of hq rfl
        have k5 : wr.cell? ⟨w.heap.size, 5, none⟩ = some (.int .i64 0) := cell_of hq rfl
        have k6 : wr.cell? ⟨w.heap.size, 6, none⟩ = some (.bool false) := cell_of hq rfl
        have fq := frozen_of hq
        have HQ2 : Hid _ := hq
        clear hq
        go_wp2
        obtain rfl : j = X.n := by omega
        have z1 := heap_set_same (k := 0) HQ2.out (.slice (some ⟨X.kb, 0, none⟩) X.n X.n)
        have z2 := heap_set_same (k := 1) z1 (.int .i64 (freshS N d o f g X.n).dialer)
        have z3 := heap_set_same (k := 2) z2 (.int .i64 (freshS N d o f g X.n).offer)
        have z4 := heap_set_same (k := 3) z3 (.slice (some ⟨X.ob, 0, none⟩) X.n X.n)
        have z5 := heap_set_same (k := 4) z4 (.slice (some ⟨X.nb, 0, none⟩) X.n X.n)
        have z6 := heap_set_same (k := 5) z5 (.int .i64 (freshS N d o f g X.n).failures)
        have z7 := heap_set_same (k := 6) z6 (.bool (freshS N d o f g X.n).failing)
        have mm : Mod (fun k => k = w.heap.size) wr _ := (((((((Mod.refl (fun k => k = w.heap.size) wr).setCell (p := ⟨w.heap.size, 0, none⟩) (Or.inl rfl) (.slice (some ⟨X.kb, 0, none⟩) X.n X.n)).setCell (p := ⟨w.heap.size, 1, none⟩) (Or.inl rfl) (.int .i64 (freshS N d o f g X.n).dialer)).setCell (p := ⟨w.heap.size, 2, none⟩) (Or.inl rfl) (.int .i64 (freshS N d o f g X.n).offer)).setCell (p := ⟨w.heap.size, 3, none⟩) (Or.inl rfl) (.slice (some ⟨X.ob, 0, none⟩) X.n X.n)).setCell (p := ⟨w.heap.size, 4, none⟩) (Or.inl rfl) (.slice (some ⟨X.nb, 0, none⟩) X.n X.n)).setCell (p := ⟨w.heap.size, 5, none⟩) (Or.inl rfl) (.int .i64 (freshS N d o f g X.n).failures)).setCell (p := ⟨w.heap.size, 6, none⟩) (Or.inl rfl) (.bool (freshS N d o f g X.n).failing)
        clear k0 k1 k2 k3 k4 k5 k6 c0 c1 c2 c3 c4 c5 c6 fq z1 z2 z3 z4 z5 z6
        generalize (((((((wr.setCell ⟨w.heap.size, 0, none⟩ (.slice (some ⟨X.kb, 0, none⟩) X.n X.n)).setCell ⟨w.heap.size, 1, none⟩ (.int .i64 (freshS N d o f g X.n).dialer)).setCell ⟨w.heap.size, 2, none⟩ (.int .i64 (freshS N d o f g X.n).offer)).setCell ⟨w.heap.size, 3, none⟩ (.slice (some ⟨X.ob, 0, none⟩) X.n X.n)).setCell ⟨w.heap.size, 4, none⟩ (.slice (some ⟨X.nb, 0, none⟩) X.n X.n)).setCell ⟨w.heap.size, 5, none⟩ (.int .i64 (freshS N d o f g X.n).failures)).setCell ⟨w.heap.size, 6, none⟩ (.bool (freshS N d o f g X.n).failing)) = W at z7 mm ⊢
        have hq2 : W.heap[w.heap.size]? = some (.cells (X.xC (freshS N d o f g X.n)) 35) := z7
        have k0 : W.cell? ⟨w.heap.size, 0, none⟩ = some (.slice (some ⟨X.kb, 0, none⟩) X.n X.n) := cell_of hq2 rfl
        have k1 : W.cell? ⟨w.heap.size, 1, none⟩ = some (.int .i64 (freshS N d o f g X.n).dialer) := cell_of hq2 rfl
        have k2 : W.cell? ⟨w.heap.size, 2, none⟩ = some (.int .i64 (freshS N d o f g X.n).offer) := cell_of hq2 rfl
        have k3 : W.cell? ⟨w.heap.size, 3, none⟩ = some (.slice (some ⟨X.ob, 0, none⟩) X.n X.n) := cell_of hq2 rfl
        have k4 : W.cell? ⟨w.heap.size, 4, none⟩ = some (.slice (some ⟨X.nb, 0, none⟩) X.n X.n) := cell_of hq2 rfl
        have k5 : W.cell? ⟨w.heap.size, 5, none⟩ = some (.int .i64 (freshS N d o f g X.n).failures) := cell_of hq2 rfl
        have k6 : W.cell? ⟨w.heap.size, 6, none⟩ = some (.bool (freshS N d o f g X.n).failing) := cell_of hq2 rfl
        have hsz := HM1.out.size
        refine bodyPost_ret (v := .agg (X.xC (freshS N d o f g X.n))) (by simp [results, Try.results13, go_sem, k0, k1, k2, k3, k4, k5, k6, XLay.xC]) rfl ⟨X, rfl, by omega, by omega, by omega, rfl, ?_, ?_⟩
        · exact H1.out.arr.mod mm (by omega) (by omega) (by omega)
        · have m1 := ((HM1.out.trans HMC.out).mono (N := fun k => w.heap.size ≤ k) (fun _ _ h => h.elim)).trans ((H2.out.mono (N := fun k => w.heap.size ≤ k) (fun k _ h => by rcases h with h | h | h | h <;> omega)).trans (mm.mono (N := fun k => w.heap.size ≤ k) (fun k _ h => by omega)))
          exact m1.mono (fun k hk h => by omega)

end Go.Proofs.Qxb6616570a
