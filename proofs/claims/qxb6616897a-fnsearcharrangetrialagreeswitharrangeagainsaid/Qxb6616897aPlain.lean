/- The search's arithmetic, plainly; the state of a search. -/
set_option linter.unusedSimpArgs false
set_option linter.unusedVariables false
namespace Go.Proofs.Qxb6616897a

def laterI (t d : Int) : Int := if 9223372036854775807 - t < d then 9223372036854775807 else t + d
def keptI (safe phase : Int) : Int := if phase = 1 then 3000000000 else if 3000000000 < safe * 1000000000 then safe * 1000000000 else 3000000000
/-- held up: the arrangement leaves more than half a second past the deadline. -/
def heldI (now dl : Int) : Bool := decide (laterI dl 500000000 < now)

theorem laterI_bd {t d : Int} (h0 : 0 ≤ t) (h1 : t ≤ 9223372036854775807) (hd : 0 ≤ d) : 0 ≤ laterI t d ∧ laterI t d ≤ 9223372036854775807 := by
  unfold laterI; split <;> omega
theorem keptI_bd {safe phase : Int} (h0 : 0 ≤ safe) (h1 : safe ≤ 9223372036) : 3000000000 ≤ keptI safe phase ∧ keptI safe phase ≤ 9223372036000000000 := by
  unfold keptI; split
  · omega
  · split <;> omega
/-- The documented rule, by subtraction. -/
theorem held_rule {now passed kept : Int} (n0 : 0 ≤ now) (n1 : now ≤ 9223372036854775807) (p0 : 0 ≤ passed) (p1 : passed ≤ 9223372036854775807) (k0 : 3000000000 ≤ kept) (k1 : kept ≤ 9223372036000000000) :
    heldI now (laterI passed kept) = !decide (now - passed ≤ kept + 500000000) := by
  unfold heldI
  rw [← decide_not]
  congr 1
  apply propext
  unfold laterI
  constructor
  · intro h; split at h <;> split at h <;> omega
  · intro h; split <;> split <;> omega
/-- No time has passed: not held up. -/
theorem held_now {now kept : Int} (n0 : 0 ≤ now) (n1 : now ≤ 9223372036854775807) (k0 : 3000000000 ≤ kept) (k1 : kept ≤ 9223372036000000000) : heldI now (laterI now kept) = false := by
  rw [held_rule n0 n1 n0 n1 k0 k1]; simp; omega

structure Sr where
  safe : Int
  tooLong : Int
  tests : Int
  timeout : Int
  retries : Int
  phase : Int
  nonce : Int
  sends : Int
  arranged : Int
  due : Int
  mapped : Bool
  made : Int
  passed : Int

end Go.Proofs.Qxb6616897a
