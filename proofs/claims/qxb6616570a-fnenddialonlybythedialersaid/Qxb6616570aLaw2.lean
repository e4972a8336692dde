/- What the laws of EndDial and update carry besides. -/
import Derived.Test.Qxb6616570aLaw
import Derived.Test.Qxb6616570aUpd3
import Derived.Test.Qxb6616570aZero
import Derived.Test.Qxb6616570aWantFns
set_option linter.unusedSimpArgs false
set_option linter.unusedVariables false
namespace Go.Proofs.Qxb6616570a
open Go.RowKit

section
variable {w0 : World} {L : Lay} {S T : St} {X : XLay} {wb xb sb so : Nat} {N : Nat → Bool} {w w' : World}

/-- A record's block outlives what turns the expected state. -/
theorem LC.recWant (h : LC w0 L S T X wb xb sb so N w) (m : Mod (X.own xb) w w') {rb : Nat} {c : Array Value} (hb : w.heap[rb]? = some (.cells c 45)) : w'.heap[rb]? = some (.cells c 45) := by
  refine m.stays hb (fun k => ?_)
  obtain ⟨c1, g1, _⟩ := h.x.arr.hk
  obtain ⟨c2, g2, _⟩ := h.x.arr.ho
  obtain ⟨c3, g3, _⟩ := h.x.arr.hn
  rcases k with k | k | k | k
  · exact ne_of_tag hb h.x.hx (by simp [tag]) k
  · exact ne_of_tag hb g1 (by simp [tag]) k
  · exact ne_of_tag hb g2 (by simp [tag]) k
  · exact ne_of_tag hb g3 (by simp [tag]) k

theorem LC.recIs (h : LC w0 L S T X wb xb sb so N w) {bb : Bool} (hb : decide (0 ≤ T.dialer) = bb) :
    Calls Try.prog 20 #[.agg #[.int .i64 T.failures, .int .u64 0, .int .i64 0, .pointer none, .bool T.failing, .bool bb], .agg #[.slice (some ⟨X.kb, 0, none⟩) L.n L.n, .int .i64 T.dialer, .int .i64 T.offer, .slice (some ⟨X.ob, 0, none⟩) L.n L.n, .slice (some ⟨X.nb, 0, none⟩) L.n L.n, .int .i64 T.failures, .bool T.failing]] w
      fun e w' => e = .returned (.bool true) ∧ Mod (fun _ => False) w w' := by
  have k := recIs_any X T bb w hb.symm
  unfold XLay.xC at k
  rw [h.xn] at k
  exact k

theorem LC.setFailures (h : LC w0 L S T X wb xb sb so N w) (f : Int) : LC w0 L S { T with failures := f } X wb xb sb so N (w.setCell ⟨xb, 5, none⟩ (.int .i64 f)) :=
  h.want ((Mod.refl _ _).setCell (Or.inl (Or.inl rfl)) _) (h.x.setFailures f)
theorem LC.setFailing (h : LC w0 L S T X wb xb sb so N w) (g : Bool) : LC w0 L S { T with failing := g } X wb xb sb so N (w.setCell ⟨xb, 6, none⟩ (.bool g)) :=
  h.want ((Mod.refl _ _).setCell (Or.inl (Or.inl rfl)) _) (h.x.setFailing g)
end

theorem recOf_told (L : Lay) (S : St) (i : Nat) (c : Bool) : recOf (toldS L S i c) = recOf S := by cases c <;> rfl

theorem endDialS_yes {L : Lay} {S : St} {i : Nat} (h : S.dialer = (i : Int)) : endDialS L S i = newsS L (endS S i) i := by simp [endDialS, toldS, h]
theorem endDialS_no {L : Lay} {S : St} {i : Nat} (h : S.dialer ≠ (i : Int)) : endDialS L S i = S := by simp [endDialS, toldS, endS, h]
theorem endDialS_kept (L : Lay) (S : St) (i : Nat) : (endDialS L S i).kept = S.kept := by
  by_cases h : S.dialer = (i : Int)
  · rw [endDialS_yes h]; exact (endS_same S i).1
  · rw [endDialS_no h]
theorem endDialS_dialer {L : Lay} {S : St} {i : Nat} (h : S.dialer = (i : Int)) : (endDialS L S i).dialer = -1 := by
  rw [endDialS_yes h]; show (endS S i).dialer = -1; simp [endS, h]
theorem endDialS_not (L : Lay) (S : St) (i : Nat) : (endDialS L S i).dialer ≠ (i : Int) := by
  by_cases h : S.dialer = (i : Int)
  · rw [endDialS_dialer h]; omega
  · rw [endDialS_no h]; exact h

/-- EndDial, its record told of the state that it leaves. -/
theorem endDial_rec {L : Lay} {S : St} {w : World} (h : Hold L S w) {i : Nat} (hi : i < L.n) (hk : S.kept i = true) {S' : St} (hS : endDialS L S i = S') {bb : Bool} (hb : decide (0 ≤ S'.dialer) = bb) :
    Calls Try.prog 17 #[.pointer (some ⟨L.E i, 0, none⟩)] w fun e w' => e = .returned (.agg #[.int .i64 S'.failures, .int .u64 0, .int .i64 0, .pointer none, .bool S'.failing, .bool bb]) ∧ Hold L S' w' ∧ Mod L.own w w' := by
  subst hS hb
  have k := endDial_any h hi hk
  rw [show recOf (endS S i) = recOf (endDialS L S i) from (recOf_told L _ i _).symm] at k
  exact k

theorem setS_kept (L : Lay) (S : St) (i : Nat) (f : Int) (g r : Bool) : (setS L S i f g r).kept = S.kept := by cases r <;> rfl

theorem updateSet_rec {L : Lay} {S : St} {w : World} (h : Hold L S w) {i : Nat} (hi : i < L.n) (hk : S.kept i = true) (f : Int) (g r : Bool) {S' : St} (hS : setS L S i f g r = S') {bb : Bool} (hb : decide (0 ≤ S'.dialer) = bb) :
    Calls Try.prog 27 #[.pointer (some ⟨L.E i, 0, none⟩), .int .i64 f, .bool g, .bool r] w fun e w' => e = .returned (.tuple #[.agg #[.int .i64 S'.failures, .int .u64 0, .int .i64 0, .pointer none, .bool S'.failing, .bool bb], .bool r]) ∧ Hold L S' w' ∧ Mod L.own w w' := by
  subst hS hb
  have k := updateSet_any h hi hk f g r
  rw [show recOf { S with failures := f, failing := g } = recOf (setS L S i f g r) from (recOf_told L _ i r).symm] at k
  exact k

end Go.Proofs.Qxb6616570a
