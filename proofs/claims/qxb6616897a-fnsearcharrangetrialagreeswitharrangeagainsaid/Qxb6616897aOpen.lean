/- A SearchState handed by value, opened. -/
import Derived.Test.Qxb6616897aRows
import Derived.Test.Qxb6616897aWalk2
import Derived.ProofKit
import Derived.OpenShut
import Derived.ShutString
import Derived.ChangeOld
import Derived.Below
import Derived.Deep.Slices
set_option linter.unusedSimpArgs false
set_option linter.unusedVariables false
namespace Go.Proofs.Qxb6616897a
open Go.ChangeShapes Go.WideShapes Go.ChangeAt Go.RowKit
open Go.Deep

theorem own : ownKnob Try.prog.godebug = none := by kernel_rfl
theorem laidOut : laidOutB Try.prog = true := by kernel_rfl
theorem cells43 : Try.prog.cellsOf 43 = 14 := by kernel_rfl
theorem cells3 : Try.prog.cellsOf 3 = 1 := by kernel_rfl
theorem cells4 : Try.prog.cellsOf 4 = 1 := by kernel_rfl
theorem cells5 : Try.prog.cellsOf 5 = 1 := by kernel_rfl
theorem cells22 : Try.prog.cellsOf 22 = 1 := by kernel_rfl
theorem cells41 : Try.prog.cellsOf 41 = 1 := by kernel_rfl

/-- What a law is told of its SearchState. -/
def IsState (v : Value) : Prop := ∃ (s : Sr) (fresh : Int), v = .agg (s.state fresh) ∧ s.passed ≤ 9223372036854775807 ∧ s.timeout ≤ 9223372036854775807

set_option maxRecDepth 100000 in
set_option maxHeartbeats 2000000 in
theorem isState_of {H : Type} {enc : TypeId × Value → H} {W : World} {r : Reach} {b0 : Nat} {v : Value} {d : DataW H} {p : List MemPlace} (hv : Value.okWide Try.prog W r b0 43 v) (h : DataW.Trod enc Try.prog W 0 (fun _ => true) true 43 v d p) : IsState v := by
  obtain ⟨cs, rfl, hsz⟩ := okWide_struct Try.underlying43 hv
  obtain ⟨fuel, hf⟩ := h
  obtain ⟨xs, n, _, _, hl, hlen, hfld⟩ := DataW.trod_struct Try.underlying43 hf
  obtain ⟨cl⟩ := cs
  rw [cells43] at hsz
  simp only [Value.cells] at hf hfld
  match cl, hsz, xs, hlen with
  | [c0, c1, c2, c3, c4, c5, c6, c7, c8, c9, c10, c11, c12, c13], _, [y0, y1, y2, y3, y4, y5, y6, y7, y8, y9, y10, y11, y12, y13], _ =>
    have t0 := hfld 0 _ rfl
    simp [cells3, cells4, cells5, cells22, cells41] at t0
    obtain ⟨safe, e0, _, wf0⟩ := DataW.trod_int Try.underlying3 t0
    simp at e0
    subst e0
    have t1 := hfld 1 _ rfl
    simp [cells3, cells4, cells5, cells22, cells41] at t1
    obtain ⟨tooLong, e1, _, wf1⟩ := DataW.trod_int Try.underlying3 t1
    simp at e1
    subst e1
    have t2 := hfld 2 _ rfl
    simp [cells3, cells4, cells5, cells22, cells41] at t2
    obtain ⟨tests, e2, _, wf2⟩ := DataW.trod_int Try.underlying3 t2
    simp at e2
    subst e2
    have t3 := hfld 3 _ rfl
    simp [cells3, cells4, cells5, cells22, cells41] at t3
    obtain ⟨timeout, e3, _, wf3⟩ := DataW.trod_int Try.underlying22 t3
    simp at e3
    subst e3
    have t4 := hfld 4 _ rfl
    simp [cells3, cells4, cells5, cells22, cells41] at t4
    obtain ⟨retries, e4, _, wf4⟩ := DataW.trod_int Try.underlying3 t4
    simp at e4
    subst e4
    have t5 := hfld 5 _ rfl
    simp [cells3, cells4, cells5, cells22, cells41] at t5
    obtain ⟨fresh, e5, _, wf5⟩ := DataW.trod_int Try.underlying41 t5
    simp at e5
    subst e5
    have t6 := hfld 6 _ rfl
    simp [cells3, cells4, cells5, cells22, cells41] at t6
    obtain ⟨phase, e6, _, wf6⟩ := DataW.trod_int Try.underlying5 t6
    simp at e6
    subst e6
    have t7 := hfld 7 _ rfl
    simp [cells3, cells4, cells5, cells22, cells41] at t7
    obtain ⟨nonce, e7, _, wf7⟩ := DataW.trod_int Try.underlying41 t7
    simp at e7
    subst e7
    have t8 := hfld 8 _ rfl
    simp [cells3, cells4, cells5, cells22, cells41] at t8
    obtain ⟨sends, e8, _, wf8⟩ := DataW.trod_int Try.underlying3 t8
    simp at e8
    subst e8
    have t9 := hfld 9 _ rfl
    simp [cells3, cells4, cells5, cells22, cells41] at t9
    obtain ⟨arranged, e9, _, wf9⟩ := DataW.trod_int Try.underlying22 t9
    simp at e9
    subst e9
    have t10 := hfld 10 _ rfl
    simp [cells3, cells4, cells5, cells22, cells41] at t10
    obtain ⟨due, e10, _, wf10⟩ := DataW.trod_int Try.underlying22 t10
    simp at e10
    subst e10
    have t11 := hfld 11 _ rfl
    simp [cells3, cells4, cells5, cells22, cells41] at t11
    obtain ⟨mapped, e11, _⟩ := DataW.trod_bool Try.underlying4 t11
    simp at e11
    subst e11
    have t12 := hfld 12 _ rfl
    simp [cells3, cells4, cells5, cells22, cells41] at t12
    obtain ⟨made, e12, _, wf12⟩ := DataW.trod_int Try.underlying22 t12
    simp at e12
    subst e12
    have t13 := hfld 13 _ rfl
    simp [cells3, cells4, cells5, cells22, cells41] at t13
    obtain ⟨passed, e13, _, wf13⟩ := DataW.trod_int Try.underlying22 t13
    simp at e13
    subst e13
    exact ⟨⟨safe, tooLong, tests, timeout, retries, phase, nonce, sends, arranged, due, mapped, made, passed⟩, fresh, rfl, (bounds_i64 wf13).2, (bounds_i64 wf3).2⟩

end Go.Proofs.Qxb6616897a
