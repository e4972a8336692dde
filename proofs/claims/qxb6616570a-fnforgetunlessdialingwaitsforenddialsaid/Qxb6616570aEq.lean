/- '==' and '!=' between two pointers to plain blocks. -/
import Derived.Test.Qxb6616570aRows
import Derived.Test.Qxb6616570aRep
import Derived.LaidEqlPtr
namespace Go.Proofs.Qxb6616570a
open Go.RowKit

/-- Block b is a row of cells, none of them frozen. -/
def Pl (w : World) (b : Nat) : Prop := ∃ c t, w.heap[b]? = some (.cells c t (0, 0))

theorem Pl_of {w : World} {b : Nat} {c : Array Value} {t : TypeId} (h : w.heap[b]? = some (.cells c t)) : Pl w b := ⟨c, t, h⟩
theorem Pl_drew {w : World} {b : Nat} : Pl w.drew b ↔ Pl w b := Iff.rfl
theorem Pl_alloc {w : World} {b : Nat} (o : Obj) (h : Pl w b) : Pl (w.alloc o) b := by
  obtain ⟨c, t, h⟩ := h
  exact ⟨c, t, (Below.heap_alloc _ _ _ (heap_lt h)).trans h⟩
theorem Pl_setCell {w : World} {b : Nat} (p : Addr) (v : Value) (h : Pl w b) : Pl (w.setCell p v) b := by
  obtain ⟨c, t, h⟩ := h
  by_cases e : b = p.block
  · subst e
    exact ⟨if p.spot.isSome then c else c.setIfInBounds p.off v, t, by simp [World.setCell, Array.getElem?_modify, h]⟩
  · exact ⟨c, t, (Below.heap_setCell _ _ _ _ e).trans h⟩
theorem Pl_mod {M : Nat → Prop} {w w' : World} {b : Nat} (hm : Mod M w w') (h : Pl w b) (hb : ¬ M b) : Pl w' b := by
  obtain ⟨c, t, h⟩ := h
  exact ⟨c, t, hm.stays h hb⟩

section
variable {P : Program} (w : World)
theorem run_eql_ptr {tp te : TypeId} {j : TypeInfo} {a b : Nat} (hp : P.underlying tp = some (.pointer te)) (hte : P.info? te = some j) (hsz : j.size ≠ 0) (ha : Pl w a) (hb : Pl w b) :
    (binOp .eql tp (ptr a) (ptr b)).run P w = .ok (.bool (a == b)) w := by
  by_cases e : a = b
  · subst e; simpa using run_eql_ptr_same w (P := P) ⟨a, 0, none⟩ hp hte
  · obtain ⟨ca, ta, ha⟩ := ha
    obtain ⟨cb, tb, hb⟩ := hb
    have := run_eql_ptr_other w (P := P) (a := ⟨a, 0, none⟩) (b := ⟨b, 0, none⟩) hp hte hsz (fun h => e (by injection h)) ha hb
    have e2 : (a == b) = false := by simp [e]
    rw [e2]; exact this
theorem run_neq_ptr {tp te : TypeId} {j : TypeInfo} {a b : Nat} (hp : P.underlying tp = some (.pointer te)) (hte : P.info? te = some j) (hsz : j.size ≠ 0) (ha : Pl w a) (hb : Pl w b) :
    (binOp .neq tp (ptr a) (ptr b)).run P w = .ok (.bool (!(a == b))) w := by
  have h : ∀ d : Nat, (Op.equalIn (d + 1) tp (ptr a) (ptr b)).run P w = .ok (a == b) w := fun d => by
    by_cases e : a = b
    · subst e; simp [Op.equalIn, run_underlying hp, sizeOf, typeInfo, hte, run_sameAddr_same]
    · obtain ⟨ca, ta, ha⟩ := ha
      obtain ⟨cb, tb, hb⟩ := hb
      have := run_sameAddr_other w (P := P) (a := ⟨a, 0, none⟩) (b := ⟨b, 0, none⟩) (fun h => e (by injection h)) ha hb
      simp [Op.equalIn, run_underlying hp, sizeOf, typeInfo, hte, hsz, this, e]
  simp only [binOp]
  simp [Op.equal, Op.maxDepth, h 9999]
theorem run_eql_nil_ptr {tp te : TypeId} {a : Option Addr} (hp : P.underlying tp = some (.pointer te)) :
    (binOp .eql tp (.pointer none) (.pointer a)).run P w = .ok (.bool a.isNone) w := by
  have h : ∀ d : Nat, (Op.equalIn (d + 1) tp (.pointer none) (.pointer a)).run P w = .ok a.isNone w := fun d => by
    simp [Op.equalIn, run_underlying hp]
  simp only [binOp]
  simp [Op.equal, Op.maxDepth, h 9999]
theorem run_neq_nil_ptr {tp te : TypeId} {a : Option Addr} (hp : P.underlying tp = some (.pointer te)) :
    (binOp .neq tp (.pointer none) (.pointer a)).run P w = .ok (.bool (!a.isNone)) w := by
  have h : ∀ d : Nat, (Op.equalIn (d + 1) tp (.pointer none) (.pointer a)).run P w = .ok a.isNone w := fun d => by
    simp [Op.equalIn, run_underlying hp]
  simp only [binOp]
  simp [Op.equal, Op.maxDepth, h 9999]
end

theorem eq37 (w : World) (a b : Nat) (ha : Pl w a) (hb : Pl w b) : (binOp .eql 37 (.pointer (some ⟨a, 0, none⟩)) (.pointer (some ⟨b, 0, none⟩))).run Try.prog w = .ok (.bool (a == b)) w :=
  run_eql_ptr w (j := (Try.prog.info? 109).get (by kernel_rfl)) Try.underlying37 (by kernel_rfl) (by decide +kernel) ha hb
theorem ne37 (w : World) (a b : Nat) (ha : Pl w a) (hb : Pl w b) : (binOp .neq 37 (.pointer (some ⟨a, 0, none⟩)) (.pointer (some ⟨b, 0, none⟩))).run Try.prog w = .ok (.bool (!(a == b))) w :=
  run_neq_ptr w (j := (Try.prog.info? 109).get (by kernel_rfl)) Try.underlying37 (by kernel_rfl) (by decide +kernel) ha hb
theorem eq26 (w : World) (a b : Nat) (ha : Pl w a) (hb : Pl w b) : (binOp .eql 26 (.pointer (some ⟨a, 0, none⟩)) (.pointer (some ⟨b, 0, none⟩))).run Try.prog w = .ok (.bool (a == b)) w :=
  run_eql_ptr w (j := (Try.prog.info? 86).get (by kernel_rfl)) Try.underlying26 (by kernel_rfl) (by decide +kernel) ha hb
theorem ne26 (w : World) (a b : Nat) (ha : Pl w a) (hb : Pl w b) : (binOp .neq 26 (.pointer (some ⟨a, 0, none⟩)) (.pointer (some ⟨b, 0, none⟩))).run Try.prog w = .ok (.bool (!(a == b))) w :=
  run_neq_ptr w (j := (Try.prog.info? 86).get (by kernel_rfl)) Try.underlying26 (by kernel_rfl) (by decide +kernel) ha hb
theorem eq60 (w : World) (a b : Nat) (ha : Pl w a) (hb : Pl w b) : (binOp .eql 60 (.pointer (some ⟨a, 0, none⟩)) (.pointer (some ⟨b, 0, none⟩))).run Try.prog w = .ok (.bool (a == b)) w :=
  run_eql_ptr w (j := (Try.prog.info? 106).get (by kernel_rfl)) Try.underlying60 (by kernel_rfl) (by decide +kernel) ha hb
theorem ne37n (w : World) (a : Option Addr) : (binOp .neq 37 (.pointer none) (.pointer a)).run Try.prog w = .ok (.bool (!a.isNone)) w := run_neq_nil_ptr w Try.underlying37
end Go.Proofs.Qxb6616570a
