/- pick. -/
import Derived.Test.Qxb6616570aLeaf
import Derived.Test.Qxb6616570aAcc
namespace Go.Proofs.Qxb6616570a
open Go.RowKit
theorem pick_ep {L : Lay} {R : Raw} {w : World} (h : Rep L R w) (d : Int) (hd1 : d < L.n) :
    Calls Try.prog 35 #[.slice (some ⟨L.eb, 0, none⟩) L.n L.n, .int .i64 d] w fun e w' => e = .returned (.pointer (L.ea d)) ∧ w = w' := by
  by_cases hd : d < 0
  · refine (pick_nil L.eb L.n L.n d w hd).mono ?_
    rintro e w' ⟨rfl, rfl⟩
    exact ⟨by simp [Lay.ea, hd], rfl⟩
  · obtain ⟨k, rfl⟩ := Int.eq_ofNat_of_zero_le (by omega : 0 ≤ d)
    refine (pick_at L.eb L.n L.n k _ w (by omega) (h.ceb (by omega))).mono ?_
    rintro e w' ⟨rfl, rfl⟩
    exact ⟨by simp [Lay.ea, hd], rfl⟩

end Go.Proofs.Qxb6616570a
