/- Reading the cells off 'Rep'. -/
import Derived.Test.Qxb6616570aEq
namespace Go.Proofs.Qxb6616570a
open Go.RowKit

/-- The address of entry k, if there is one. -/
def Lay.ea (L : Lay) (k : Int) : Option Addr := if k < 0 then none else some ⟨L.E k.toNat, 0, none⟩
theorem ep_ea (L : Lay) (k : Int) : L.ep k = .pointer (L.ea k) := rfl
theorem ep_neg (L : Lay) {k : Int} (h : k < 0) : L.ep k = .pointer none := by simp [Lay.ep, h]
theorem ep_nil (L : Lay) : L.ep (-1) = .pointer none := rfl
theorem ep_nat (L : Lay) (k : Nat) : L.ep (k : Int) = .pointer (some ⟨L.E k, 0, none⟩) := by
  simp [Lay.ep, (show ¬ ((k : Int) < 0) by omega)]

section
variable {L : Lay} {R : Raw} {w : World}
theorem Rep.cr0 (h : Rep L R w) : w.cell? ⟨L.r, 0, none⟩ = some (.int .i64 R.failures) := cell_of h.hr rfl
theorem Rep.cr1 (h : Rep L R w) : w.cell? ⟨L.r, 1, none⟩ = some (.int .u64 0) := cell_of h.hr rfl
theorem Rep.cr2 (h : Rep L R w) : w.cell? ⟨L.r, 2, none⟩ = some (.int .i64 0) := cell_of h.hr rfl
theorem Rep.cr3 (h : Rep L R w) : w.cell? ⟨L.r, 3, none⟩ = some (.pointer none) := cell_of h.hr rfl
theorem Rep.cr4 (h : Rep L R w) : w.cell? ⟨L.r, 4, none⟩ = some (.bool R.failing) := cell_of h.hr rfl
theorem Rep.cr5 (h : Rep L R w) : w.cell? ⟨L.r, 5, none⟩ = some (L.ep R.dialer) := cell_of h.hr rfl
theorem Rep.cr6 (h : Rep L R w) : w.cell? ⟨L.r, 6, none⟩ = some (L.ep R.offer) := cell_of h.hr rfl
theorem Rep.cr7 (h : Rep L R w) : w.cell? ⟨L.r, 7, none⟩ = some (L.ep R.head) := cell_of h.hr rfl
theorem Rep.fr (h : Rep L R w) (k : Nat) : w.frozen? ⟨L.r, k, none⟩ = false := frozen_of h.hr k
theorem Rep.ch0 (h : Rep L R w) : w.cell? ⟨L.h, 0, none⟩ = some (.int .i32 R.lk) := cell_of h.hh rfl
theorem Rep.ch2 (h : Rep L R w) : w.cell? ⟨L.h, 2, none⟩ = some (.map (some L.m)) := cell_of h.hh rfl
theorem Rep.ch3 (h : Rep L R w) : w.cell? ⟨L.h, 3, none⟩ = some (.int .i64 0) := cell_of h.hh rfl
theorem Rep.fh (h : Rep L R w) (k : Nat) : w.frozen? ⟨L.h, k, none⟩ = false := frozen_of h.hh k
theorem Rep.ce0 (h : Rep L R w) {j : Nat} (hj : j < L.n) : w.cell? ⟨L.E j, 0, none⟩ = some (.pointer (some ⟨L.P j, 0, none⟩)) := cell_of (h.he j hj) rfl
theorem Rep.ce1 (h : Rep L R w) {j : Nat} (hj : j < L.n) : w.cell? ⟨L.E j, 1, none⟩ = some (.string L.peer) := cell_of (h.he j hj) rfl
theorem Rep.ce2 (h : Rep L R w) {j : Nat} (hj : j < L.n) : w.cell? ⟨L.E j, 2, none⟩ = some (.pointer (if R.rf j then some ⟨L.r, 0, none⟩ else none)) := cell_of (h.he j hj) rfl
theorem Rep.ce2t (h : Rep L R w) {j : Nat} (hj : j < L.n) (hr : R.rf j = true) : w.cell? ⟨L.E j, 2, none⟩ = some (.pointer (some ⟨L.r, 0, none⟩)) := by rw [h.ce2 hj, hr]; rfl
theorem Rep.ce2f (h : Rep L R w) {j : Nat} (hj : j < L.n) (hr : R.rf j = false) : w.cell? ⟨L.E j, 2, none⟩ = some (.pointer none) := by rw [h.ce2 hj, hr]; rfl
theorem Rep.ce3 (h : Rep L R w) {j : Nat} (hj : j < L.n) : w.cell? ⟨L.E j, 3, none⟩ = some (L.ep (R.nx j)) := cell_of (h.he j hj) rfl
theorem Rep.ce4 (h : Rep L R w) {j : Nat} (hj : j < L.n) : w.cell? ⟨L.E j, 4, none⟩ = some (.bool (R.en j)) := cell_of (h.he j hj) rfl
theorem Rep.ce5 (h : Rep L R w) {j : Nat} (hj : j < L.n) : w.cell? ⟨L.E j, 5, none⟩ = some (.int .u8 (R.outc j)) := cell_of (h.he j hj) rfl
theorem Rep.fe (h : Rep L R w) {j : Nat} (hj : j < L.n) (k : Nat) : w.frozen? ⟨L.E j, k, none⟩ = false := frozen_of (h.he j hj) k
theorem Rep.cp0 (h : Rep L R w) {j : Nat} (hj : j < L.n) : w.cell? ⟨L.P j, 0, none⟩ = some (.pointer (some ⟨L.h, 0, none⟩)) := by
  obtain ⟨nv, hp, _⟩ := h.hp j hj; exact cell_of hp rfl
theorem Rep.cp1 (h : Rep L R w) {j : Nat} (hj : j < L.n) : w.cell? ⟨L.P j, 1, none⟩ = some (.bool (L.follow j)) := by
  obtain ⟨nv, hp, _⟩ := h.hp j hj; exact cell_of hp rfl
theorem Rep.cp2f (h : Rep L R w) {j : Nat} (hj : j < L.n) (hn : R.pn j = false) : w.cell? ⟨L.P j, 2, none⟩ = some (.slice none 0 0) := by
  obtain ⟨nv, hp, h1 | h1⟩ := h.hp j hj
  · rw [← h1.2]; exact cell_of hp rfl
  · rw [hn] at h1; cases h1.1
theorem Rep.cp2t (h : Rep L R w) {j : Nat} (hj : j < L.n) (hn : R.pn j = true) : ∃ g cap, w.cell? ⟨L.P j, 2, none⟩ = some (.slice (some ⟨g, 0, none⟩) 1 cap) ∧ w.cell? ⟨g, 0, none⟩ = some (.pointer (some ⟨L.E j, 0, none⟩)) := by
  obtain ⟨nv, hp, h1 | h1⟩ := h.hp j hj
  · rw [hn] at h1; cases h1.1
  · obtain ⟨_, g, cap, c, z, rfl, h4, h5⟩ := h1
    exact ⟨g, cap, cell_of hp rfl, cell_of h4 h5⟩
theorem Rep.cp3 (h : Rep L R w) {j : Nat} (hj : j < L.n) : w.cell? ⟨L.P j, 3, none⟩ = some (.chan none) := by
  obtain ⟨nv, hp, _⟩ := h.hp j hj; exact cell_of hp rfl
theorem Rep.cp4 (h : Rep L R w) {j : Nat} (hj : j < L.n) : w.cell? ⟨L.P j, 4, none⟩ = some (.int .u32 (if R.ph j then 1 else 0)) := by
  obtain ⟨nv, hp, _⟩ := h.hp j hj; exact cell_of hp rfl
theorem Rep.fp (h : Rep L R w) {j : Nat} (hj : j < L.n) (k : Nat) : w.frozen? ⟨L.P j, k, none⟩ = false := by
  obtain ⟨nv, hp, _⟩ := h.hp j hj; exact frozen_of hp k
theorem Rep.cpb (h : Rep L R w) {j : Nat} (hj : j < L.n) : w.cell? ⟨L.pb, j, none⟩ = some (.pointer (some ⟨L.P j, 0, none⟩)) := by
  obtain ⟨c, hc, h1⟩ := h.hpb; exact cell_of hc (h1 j hj)
theorem Rep.ceb (h : Rep L R w) {j : Nat} (hj : j < L.n) : w.cell? ⟨L.eb, j, none⟩ = some (.pointer (some ⟨L.E j, 0, none⟩)) := by
  obtain ⟨c, hc, h1⟩ := h.heb; exact cell_of hc (h1 j hj)
theorem Rep.plE (h : Rep L R w) {j : Nat} (hj : j < L.n) : Pl w (L.E j) := Pl_of (h.he j hj)
theorem Rep.plP (h : Rep L R w) {j : Nat} (hj : j < L.n) : Pl w (L.P j) := by
  obtain ⟨nv, hp, _⟩ := h.hp j hj; exact Pl_of hp
theorem Rep.plR (h : Rep L R w) : Pl w L.r := Pl_of h.hr
theorem Rep.neE (h : Rep L R w) {i j : Nat} (hi : i < L.n) (hj : j < L.n) (hne : i ≠ j) : (L.E i == L.E j) = false := by
  rw [beq_eq_false_iff_ne]; exact fun e => hne (h.injE i j hi hj e)
theorem Rep.neP (h : Rep L R w) {i j : Nat} (hi : i < L.n) (hj : j < L.n) (hne : i ≠ j) : (L.P i == L.P j) = false := by
  rw [beq_eq_false_iff_ne]; exact fun e => hne (h.injP i j hi hj e)
/-- Entries and the record are not one block. -/
theorem Rep.neER (h : Rep L R w) {j : Nat} (hj : j < L.n) : L.E j ≠ L.r := ne_of_tag (h.he j hj) h.hr (by simp [tag])
theorem Rep.neEH (h : Rep L R w) {j : Nat} (hj : j < L.n) : L.E j ≠ L.h := ne_of_tag (h.he j hj) h.hh (by simp [tag])
theorem Rep.neRH (h : Rep L R w) : L.r ≠ L.h := ne_of_tag h.hr h.hh (by simp [tag])
theorem Rep.nePE (h : Rep L R w) {i j : Nat} (hi : i < L.n) (hj : j < L.n) : L.P i ≠ L.E j := by
  obtain ⟨nv, hp, _⟩ := h.hp i hi; exact ne_of_tag hp (h.he j hj) (by simp [tag])
theorem Rep.nePH (h : Rep L R w) {i : Nat} (hi : i < L.n) : L.P i ≠ L.h := by
  obtain ⟨nv, hp, _⟩ := h.hp i hi; exact ne_of_tag hp h.hh (by simp [tag])
theorem Rep.nePR (h : Rep L R w) {i : Nat} (hi : i < L.n) : L.P i ≠ L.r := by
  obtain ⟨nv, hp, _⟩ := h.hp i hi; exact ne_of_tag hp h.hr (by simp [tag])
end

theorem own_r (L : Lay) : L.own L.r := Or.inr (Or.inr (Or.inl rfl))
theorem own_h (L : Lay) : L.own L.h := Or.inl rfl
theorem own_m (L : Lay) : L.own L.m := Or.inr (Or.inl rfl)
theorem own_E (L : Lay) {j : Nat} (hj : j < L.n) : L.own (L.E j) := Or.inr (Or.inr (Or.inr ⟨j, hj, Or.inr rfl⟩))
theorem own_P (L : Lay) {j : Nat} (hj : j < L.n) : L.own (L.P j) := Or.inr (Or.inr (Or.inr ⟨j, hj, Or.inl rfl⟩))
end Go.Proofs.Qxb6616570a
