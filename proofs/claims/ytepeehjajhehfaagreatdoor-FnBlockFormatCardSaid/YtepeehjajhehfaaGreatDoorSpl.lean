/- spec.Splits, both ways. -/
import Derived.Test.YtepeehjajhehfaaGreatDoorSplit
namespace Go.Proofs.YtepeehjajhehfaaGreatDoor
open Go.RowKit Go.PlainAid
set_option linter.unusedVariables false

set_option maxRecDepth 20000 in
set_option maxHeartbeats 800000 in
theorem specSplitsB (s : ByteArray) (w : World) (hs : s.size ≤ 4611686018427387903) :
    Calls Tryz.prog 22 #[.string s] w fun e w' => ∃ b : Bool, e = .returned (.bool b) ∧ (b = true ↔ ∃ i, Sp s i) ∧ w = w' := by
  by_cases hno : ∀ i, ¬ Sp s i
  · refine (specSplits s w hs hno).mono ?_
    rintro e w' ⟨rfl, rfl⟩
    exact ⟨false, rfl, ⟨(fun h => by cases h), (fun h => h.elim fun i h => absurd h (hno i))⟩, rfl⟩
  · obtain ⟨i0, hi0⟩ : ∃ i, Sp s i := by
      rcases Classical.em (∃ i, Sp s i) with h | h
      · exact h
      · exact absurd (fun i hi => h ⟨i, hi⟩) hno
    have HI := Lib.hid hi0
    clear hno hi0
    go_enter Tryz.func22, Tryz.ntmps22
    go_wp2
    go_loopw [6] (fun i wr => ∃ k : Nat, k ≤ s.size ∧ i = .int .i64 k ∧ Hid (∀ j, j < k → ¬ Sp s j) ∧ Hid (w = wr)) (fun i _ => s.size - (intOf i).toNat)
    case atStart => exact ⟨0, by omega, rfl, Lib.hid (fun j hj => by omega), Lib.hid rfl⟩
    case round =>
      obtain ⟨k, hk, rfl, HK, hw⟩ := hrel
      have hw' := hw.out
      clear hw
      subst hw'
      by_cases hlt : k < s.size
      · have hlt' : (k : Int) < (s.size : Int) := by omega
        have HSP := fun w => Lib.hid (specSplit s k w (by omega) (by omega))
        by_cases hsp : Sp s k
        · rw [spB_true hsp] at HSP
          have HX := Lib.hid hsp
          clear hsp
          go_wp2_with (go_at_call 42; refine (HSP _).out.mono ?_; rintro e w' ⟨rfl, rfl⟩)
          go_ret
          exact ⟨true, rfl, ⟨fun _ => ⟨k, HX.out⟩, fun _ => rfl⟩, rfl⟩
        · rw [spB_false hsp] at HSP
          have HN : Hid (∀ j, j < k + 1 → ¬ Sp s j) := Lib.hid (fun j hj => by
            by_cases h : j < k
            · exact HK.out j h
            · obtain rfl : j = k := by omega
              exact hsp)
          clear hsp
          go_wp2_with (go_at_call 42; refine (HSP _).out.mono ?_; rintro e w' ⟨rfl, rfl⟩)
          go_roundw
          case rel => exact ⟨k + 1, by omega, by go_num, HN, Lib.hid (by first | trivial | rfl)⟩
          case measure => simp [intOf]; omega
      · exact absurd HI.out (HK.out i0 (by have := HI.out; unfold Sp at this; omega))
end Go.Proofs.YtepeehjajhehfaaGreatDoor
