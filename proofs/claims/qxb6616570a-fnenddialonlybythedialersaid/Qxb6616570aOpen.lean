/- The specifications that came in, opened. -/
import Derived.Test.Qxb6616570aRows
import Derived.Test.Qxb6616570aWantFns
import Derived.ProofKit
import Derived.OpenShut
import Derived.ShutString
import Derived.ChangeOld
import Derived.Below
import Derived.Deep.Slices
set_option linter.unusedSimpArgs false
set_option linter.unusedVariables false
namespace Go.Proofs.Qxb6616570a
open Go.ChangeShapes Go.WideShapes Go.ChangeAt Go.RowKit
open Go.Deep

theorem own : ownKnob Try.prog.godebug = none := by kernel_rfl
theorem laidOut : laidOutB Try.prog = true := by kernel_rfl
theorem cells54 : Try.prog.cellsOf 54 = 2 := by kernel_rfl
theorem cells4 : Try.prog.cellsOf 4 = 1 := by kernel_rfl

/-- What a law is told of its slice of specifications. -/
def IsSpecs (w : World) (a : Option Addr) (len : Nat) : Prop := len ≤ maxLen ∧ (len = 0 ∨ ∃ (sb so : Nat) (F N : Nat → Bool), a = some ⟨sb, so, none⟩ ∧ Specs w sb so len F N)

set_option maxRecDepth 100000 in
theorem isSpecs_of {H : Type} {enc : TypeId × Value → H} {W : World} {a : Option Addr} {len cap : Nat} {d : DataW H} {p : List MemPlace} (h : DataW.Trod enc Try.prog W 0 (fun _ => true) true 22 (.slice a len cap) d p) : IsSpecs W a len := by
  obtain ⟨fuel, hf⟩ := h
  rcases open_slice Try.underlying22 hf with ⟨hcs, _⟩ | ⟨x, l, c, m, n, D, Pl, hcs, _, hl, hm, hmm, _, hel⟩
  · simp [Value.cells] at hcs
    obtain ⟨rfl, rfl, rfl⟩ := hcs
    exact ⟨Nat.zero_le _, Or.inl rfl⟩
  · simp [Value.cells] at hcs
    obtain ⟨rfl, rfl, rfl⟩ := hcs
    refine ⟨by omega, ?_⟩
    by_cases h0 : len = 0
    · exact Or.inl h0
    right
    have hlm : len ≤ m := by simp at hmm; omega
    rw [cells54] at hel
    have each : ∀ i, i < len → ∃ fb nb : Bool, W.cell? (x.add (i * 2)) = some (.bool fb) ∧ W.cell? ((x.add (i * 2)).add 1) = some (.bool nb) := by
      intro i hi
      obtain ⟨cs', hc, ht⟩ := hel i (by omega)
      obtain ⟨_, hlen, hg⟩ := World.cells?_some hc
      obtain ⟨y0, y1, k, _, _, t0, t1⟩ := trod_struct2 Try.underlying54 ht
      match cs', hlen with
      | [c0, c1], _ =>
        simp [cells4] at t0 t1
        obtain ⟨b0, e0, _⟩ := DataW.trod_bool Try.underlying4 t0
        obtain ⟨b1, e1, _⟩ := DataW.trod_bool Try.underlying4 t1
        simp at e0 e1
        subst e0 e1
        have g0 := hg 0 (by omega)
        have g1 := hg 1 (by omega)
        exact ⟨b0, b1, by simpa [Addr.add] using g0, by simpa using g1⟩
    obtain ⟨b, off, spot⟩ := x
    have hspot : spot = none := by
      obtain ⟨fb, _, h1, _⟩ := each 0 (by omega)
      simpa [Addr.add] using World.cell?_spot h1
    subst hspot
    obtain ⟨F, hF⟩ := choose_lt (p := fun i (fb : Bool) => ∃ nb : Bool, W.cell? ((⟨b, off, none⟩ : Addr).add (i * 2)) = some (.bool fb) ∧ W.cell? (((⟨b, off, none⟩ : Addr).add (i * 2)).add 1) = some (.bool nb)) each
    obtain ⟨N, hN⟩ := choose_lt (p := fun i (nb : Bool) => W.cell? ((⟨b, off, none⟩ : Addr).add (i * 2)) = some (.bool (F i)) ∧ W.cell? (((⟨b, off, none⟩ : Addr).add (i * 2)).add 1) = some (.bool nb)) hF
    refine ⟨b, off, F, N, rfl, ⟨fun j hj => ?_, fun j hj => ?_, by omega⟩⟩
    · have := (hN j hj).1
      rwa [Addr.add_lit] at this
    · have := (hN j hj).2
      rwa [Addr.add_lit, Addr.add_lit] at this
end Go.Proofs.Qxb6616570a
