/- shapeOK. -/
import Derived.Test.Qxb6616570aLeaf
set_option linter.unusedSimpArgs false
set_option linter.unusedVariables false
namespace Go.Proofs.Qxb6616570a
open Go.RowKit

def Shape (n i d o : Int) : Prop := 1 ≤ n ∧ 0 ≤ i ∧ i < n ∧ -1 ≤ d ∧ d < n ∧ -1 ≤ o ∧ o < n ∧ (0 ≤ d ∨ o = -1)

set_option maxHeartbeats 400000 in
theorem shapeOK_true (n i d o : Int) (w : World) (h : Shape n i d o) :
    Calls Try.prog 11 #[.int .i64 n, .int .i64 i, .int .i64 d, .int .i64 o] w fun e w' => e = .returned (.bool true) ∧ w' = w := by
  obtain ⟨h1, h2, h3, h4, h5, h6, h7, h8⟩ := h
  by_cases hd : 0 ≤ d
  · have q1 : (d != -1) = true := by rw [bne_iff_ne]; omega
    clear h8
    go_enter Try.func11, Try.ntmps11
    go_wp2
    go_ret
    exact ⟨rfl, rfl⟩
  · have q1 : (d != -1) = false := by simp; omega
    have q2 : (o == -1) = true := by simp; omega
    clear h8
    go_enter Try.func11, Try.ntmps11
    go_wp2
    go_ret
    exact ⟨rfl, rfl⟩

set_option maxHeartbeats 1000000 in
theorem shapeOK_false (n i d o : Int) (w : World) (h : ¬ Shape n i d o) :
    Calls Try.prog 11 #[.int .i64 n, .int .i64 i, .int .i64 d, .int .i64 o] w fun e w' => e = .returned (.bool false) ∧ w' = w := by
  unfold Shape at h
  by_cases h1 : 1 ≤ n ∧ 0 ≤ i ∧ i < n
  · obtain ⟨a1, a2, a3⟩ := h1
    by_cases h2 : -1 ≤ d ∧ d < n ∧ -1 ≤ o ∧ o < n
    · obtain ⟨b1, b2, b3, b4⟩ := h2
      have q1 : (d != -1) = false := by simp; omega
      have q2 : (o == -1) = false := by simp; omega
      clear h
      go_enter Try.func11, Try.ntmps11
      go_wp2
      go_ret
      exact ⟨rfl, rfl⟩
    · clear h
      have h2' : d < -1 ∨ n ≤ d ∨ o < -1 ∨ n ≤ o := by omega
      clear h2
      rcases h2' with c | c | c | c
      · go_enter Try.func11, Try.ntmps11
        go_wp2
        all_goals (go_ret; exact ⟨rfl, rfl⟩)
      · by_cases c2 : d < -1
        all_goals
          go_enter Try.func11, Try.ntmps11
          go_wp2
          all_goals (go_ret; exact ⟨rfl, rfl⟩)
      · by_cases c2 : d < -1
        · go_enter Try.func11, Try.ntmps11
          go_wp2
          all_goals (go_ret; exact ⟨rfl, rfl⟩)
        · by_cases c3 : n ≤ d
          all_goals
            go_enter Try.func11, Try.ntmps11
            go_wp2
            all_goals (go_ret; exact ⟨rfl, rfl⟩)
      · by_cases c2 : d < -1
        · go_enter Try.func11, Try.ntmps11
          go_wp2
          all_goals (go_ret; exact ⟨rfl, rfl⟩)
        · by_cases c3 : n ≤ d
          · go_enter Try.func11, Try.ntmps11
            go_wp2
            all_goals (go_ret; exact ⟨rfl, rfl⟩)
          · by_cases c4 : o < -1
            all_goals
              go_enter Try.func11, Try.ntmps11
              go_wp2
              all_goals (go_ret; exact ⟨rfl, rfl⟩)
  · clear h
    have h1' : n < 1 ∨ i < 0 ∨ n ≤ i := by omega
    clear h1
    rcases h1' with c | c | c
    · go_enter Try.func11, Try.ntmps11
      go_wp2
      all_goals (go_ret; exact ⟨rfl, rfl⟩)
    · by_cases c2 : n < 1
      all_goals
        go_enter Try.func11, Try.ntmps11
        go_wp2
        all_goals (go_ret; exact ⟨rfl, rfl⟩)
    · by_cases c2 : n < 1
      · go_enter Try.func11, Try.ntmps11
        go_wp2
        all_goals (go_ret; exact ⟨rfl, rfl⟩)
      · by_cases c3 : i < 0
        all_goals
          go_enter Try.func11, Try.ntmps11
          go_wp2
          all_goals (go_ret; exact ⟨rfl, rfl⟩)
end Go.Proofs.Qxb6616570a
