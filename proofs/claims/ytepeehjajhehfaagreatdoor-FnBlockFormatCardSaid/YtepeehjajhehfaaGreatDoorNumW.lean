/- The walk of spec.number. -/
import Derived.Test.YtepeehjajhehfaaGreatDoorNum
namespace Go.Proofs.YtepeehjajhehfaaGreatDoor
open Go.RowKit Go.PlainAid
set_option linter.unusedVariables false

theorem numL_le19 {n : Nat} (hn : n ≤ 9223372036854775807) : (numL n).length ≤ 19 := by
  by_cases h : 10 ≤ n
  · have g := numL_ge n h
    rcases Nat.lt_or_ge 19 (numL n).length with h2 | h2
    · have := Nat.pow_le_pow_right (n := 10) (by omega) (show 19 ≤ (numL n).length - 1 by omega)
      have e : (10 : Nat) ^ 19 = 10000000000000000000 := by decide
      omega
    · exact h2
  · rw [numL_small (by omega)]; simp
theorem ba_ext {a b : ByteArray} (h : a.data.toList = b.data.toList) : a = b := by
  cases a; cases b
  simp at h
  rw [h]
end Go.Proofs.YtepeehjajhehfaaGreatDoor
