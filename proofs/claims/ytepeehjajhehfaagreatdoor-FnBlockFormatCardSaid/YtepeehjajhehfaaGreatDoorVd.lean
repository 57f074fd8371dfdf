/- Verdicts of package spec: when, all, small, moment, HasData, slashed, odd; in plain words and walked. -/
import Derived.Test.YtepeehjajhehfaaGreatDoorHd
import Derived.Test.YtepeehjajhehfaaGreatDoorNums
import Derived.Test.YtepeehjajhehfaaGreatDoorSplit
import Derived.Test.YtepeehjajhehfaaGreatDoorDec
namespace Go.Proofs.YtepeehjajhehfaaGreatDoor
open Go.RowKit Go.PlainAid
set_option linter.unusedVariables false

def whenV (b : Bool) : Int := if b then 1 else 2
set_option maxRecDepth 20000 in
set_option maxHeartbeats 400000 in
theorem specWhen (b : Bool) (w : World) : Calls Tryz.prog 21 #[.bool b] w fun e w' => e = .returned (.int .i64 (whenV b)) ∧ w = w' := by
  cases b
  · go_enter Tryz.func21, Tryz.ntmps21
    go_wp2
    go_ret
    exact ⟨rfl, rfl⟩
  · go_enter Tryz.func21, Tryz.ntmps21
    go_wp2
    go_ret
    exact ⟨rfl, rfl⟩
def joinV (v x : Int) : Int := if x = 2 ∨ (x = 0 ∧ v = 1) then x else v
/-- Verdicts, joined. -/
def allV (xs : List Int) : Int := xs.foldl joinV 1
theorem allV_snoc (xs : List Int) (x : Int) : allV (xs ++ [x]) = joinV (allV xs) x := by simp [allV]
theorem joinV_yes {v x : Int} (h : x = 2 ∨ (x = 0 ∧ v = 1)) : joinV v x = x := by unfold joinV; rw [if_pos h]
theorem joinV_no {v x : Int} (h : ¬ (x = 2 ∨ (x = 0 ∧ v = 1))) : joinV v x = v := by unfold joinV; rw [if_neg h]
set_option maxRecDepth 20000 in
set_option maxHeartbeats 1600000 in
theorem specAll (A : Option Addr) (n c B : Nat) (xs : List Int) (w : World) (hl : xs.length = n) (hr : RC w B A (nums xs)) (hn : n ≤ 2147483647) :
    Calls Tryz.prog 23 #[.slice A n c] w fun e w' => e = .returned (.int .i64 (allV xs)) ∧ w = w' := by
  have HR := Lib.hid hr
  have HL := Lib.hid hl
  clear hr hl
  go_enter Tryz.func23, Tryz.ntmps23
  go_wp2
  go_loopw [3, 8] (fun v i wr => ∃ (k : Nat) (y : Int), k ≤ n ∧ i = .int .i64 k ∧ v = .int .i64 y ∧ Hid (y = allV (xs.take k)) ∧ w = wr) (fun _ i _ => n - (intOf i).toNat)
  case atStart => exact ⟨0, 1, by omega, rfl, rfl, Lib.hid rfl, rfl⟩
  case round =>
    obtain ⟨k, y, hk, rfl, rfl, HY, hw⟩ := hrel
    subst hw
    by_cases hlt : k < n
    · obtain ⟨b, o, rfl, _, hcell⟩ := HR.out.num (k := k) (by rw [HL.out]; exact hlt)
      replace hcell := hcell k (by rw [HL.out]; exact hlt)
      obtain ⟨x, hx⟩ : ∃ x, nv xs k = x := ⟨_, rfl⟩
      have HT : Hid (allV (xs.take (k + 1)) = joinV y x) := Lib.hid (by
        have h1 : k < xs.length := by rw [HL.out]; exact hlt
        have h2 : xs[k] = x := by rw [← hx]; simp [nv, List.getD, h1]
        rw [List.take_succ_eq_append_getElem h1, allV_snoc, ← HY.out, h2])
      rw [hx] at hcell
      have hk0 : (0 : Int) ≤ (k : Int) := by omega
      have hk1 : (k : Int) < (n : Int) := by omega
      clear hx
      by_cases h2 : x = 2
      · subst h2
        have HV : Hid (2 = allV (xs.take (k + 1))) := Lib.hid (by rw [HT.out, joinV_yes (.inl rfl)])
        go_wp2
        go_roundw
        case rel => exact ⟨k + 1, 2, by omega, by go_num, rfl, HV, by first | trivial | rfl⟩
        case measure => simp [intOf] <;> omega
      · have h2' : (x == 2) = false := by simpa using h2
        by_cases h0 : x = 0
        · subst h0
          by_cases h1 : y = 1
          · subst h1
            have HV : Hid (0 = allV (xs.take (k + 1))) := Lib.hid (by rw [HT.out, joinV_yes (.inr ⟨rfl, rfl⟩)])
            go_wp2
            go_roundw
            case rel => exact ⟨k + 1, 0, by omega, by go_num, rfl, HV, by first | trivial | rfl⟩
            case measure => simp [intOf] <;> omega
          · have h1' : (y == 1) = false := by simpa using h1
            have HV : Hid (y = allV (xs.take (k + 1))) := Lib.hid (by rw [HT.out, joinV_no (by omega)])
            go_wp2
            go_roundw
            case rel => exact ⟨k + 1, y, by omega, by go_num, rfl, HV, by first | trivial | rfl⟩
            case measure => simp [intOf] <;> omega
        · have h0' : (x == 0) = false := by simpa using h0
          have HV : Hid (y = allV (xs.take (k + 1))) := Lib.hid (by rw [HT.out, joinV_no (by omega)])
          go_wp2
          go_roundw
          case rel => exact ⟨k + 1, y, by omega, by go_num, rfl, HV, by first | trivial | rfl⟩
          case measure => simp [intOf] <;> omega
    · obtain rfl : k = n := by omega
      have HE : Hid (y = allV xs) := Lib.hid (by rw [HY.out, List.take_of_length_le (by rw [HL.out]; exact Nat.le_refl _)])
      go_wp2
      go_ret
      exact ⟨by rw [HE.out]; rfl, by first | trivial | rfl⟩
/-- What a number comes to in a format. -/
def smallV (n f : Int) (p : Bool) : Int :=
  if f = 3 then (if n < 0 ∨ (72057594037927936 ≤ n ∧ n < 144115188075855872) then 0 else if n < 72057594037927936 then 1 else 2)
  else if f = 2 ∧ p = true then (if n < 0 then 0 else 1) else if 0 ≤ n ∧ n < 2097152 then 1 else 2
set_option maxRecDepth 20000 in
set_option maxHeartbeats 1600000 in
theorem specSmall (n f : Int) (p : Bool) (w : World) (hf : f = 1 ∨ f = 2 ∨ f = 3) :
    Calls Tryz.prog 25 #[.int .i64 n, .int .i64 f, .bool p] w fun e w' => e = .returned (.int .i64 (smallV n f p)) ∧ w = w' := by
  have HW := fun b => specWhen b w
  obtain ⟨V, hV⟩ : ∃ V, smallV n f p = V := ⟨_, rfl⟩
  rw [hV]
  unfold smallV at hV
  rcases hf with rfl | rfl | rfl
  · rw [if_neg (by decide), if_neg (by omega)] at hV
    by_cases h1 : 0 ≤ n
    · by_cases h2 : n < 2097152
      · rw [if_pos ⟨h1, h2⟩] at hV
        subst hV
        go_enter Tryz.func25, Tryz.ntmps25
        go_wp2_with (go_at_call 21; refine (HW _).mono ?_; rintro e w' ⟨rfl, rfl⟩)
        go_ret
        exact ⟨rfl, rfl⟩
      · rw [if_neg (by omega)] at hV
        subst hV
        go_enter Tryz.func25, Tryz.ntmps25
        go_wp2_with (go_at_call 21; refine (HW _).mono ?_; rintro e w' ⟨rfl, rfl⟩)
        go_ret
        exact ⟨rfl, rfl⟩
    · rw [if_neg (by omega)] at hV
      subst hV
      go_enter Tryz.func25, Tryz.ntmps25
      go_wp2_with (go_at_call 21; refine (HW _).mono ?_; rintro e w' ⟨rfl, rfl⟩)
      go_ret
      exact ⟨rfl, rfl⟩
  · rw [if_neg (by decide)] at hV
    cases p with
    | true =>
      rw [if_pos ⟨rfl, rfl⟩] at hV
      by_cases h1 : n < 0
      · rw [if_pos h1] at hV
        subst hV
        go_enter Tryz.func25, Tryz.ntmps25
        go_wp2
        go_ret
        exact ⟨rfl, rfl⟩
      · rw [if_neg h1] at hV
        subst hV
        go_enter Tryz.func25, Tryz.ntmps25
        go_wp2
        go_ret
        exact ⟨rfl, rfl⟩
    | false =>
      rw [if_neg (by simp)] at hV
      by_cases h1 : 0 ≤ n
      · by_cases h2 : n < 2097152
        · rw [if_pos ⟨h1, h2⟩] at hV
          subst hV
          go_enter Tryz.func25, Tryz.ntmps25
          go_wp2_with (go_at_call 21; refine (HW _).mono ?_; rintro e w' ⟨rfl, rfl⟩)
          go_ret
          exact ⟨rfl, rfl⟩
        · rw [if_neg (by omega)] at hV
          subst hV
          go_enter Tryz.func25, Tryz.ntmps25
          go_wp2_with (go_at_call 21; refine (HW _).mono ?_; rintro e w' ⟨rfl, rfl⟩)
          go_ret
          exact ⟨rfl, rfl⟩
      · rw [if_neg (by omega)] at hV
        subst hV
        go_enter Tryz.func25, Tryz.ntmps25
        go_wp2_with (go_at_call 21; refine (HW _).mono ?_; rintro e w' ⟨rfl, rfl⟩)
        go_ret
        exact ⟨rfl, rfl⟩
  · rw [if_pos rfl] at hV
    by_cases h1 : n < 0
    · rw [if_pos (.inl h1)] at hV
      subst hV
      go_enter Tryz.func25, Tryz.ntmps25
      go_wp2
      go_ret
      exact ⟨rfl, rfl⟩
    · by_cases h2 : 72057594037927936 ≤ n
      · by_cases h3 : n < 144115188075855872
        · rw [if_pos (.inr ⟨h2, h3⟩)] at hV
          subst hV
          go_enter Tryz.func25, Tryz.ntmps25
          go_wp2
          go_ret
          exact ⟨rfl, rfl⟩
        · rw [if_neg (by omega), if_neg (by omega)] at hV
          subst hV
          go_enter Tryz.func25, Tryz.ntmps25
          go_wp2_with (go_at_call 21; refine (HW _).mono ?_; rintro e w' ⟨rfl, rfl⟩)
          go_ret
          exact ⟨by have h4 : ¬ n < 72057594037927936 := by omega
                    simp [whenV, h4], rfl⟩
      · rw [if_neg (by omega), if_pos (by omega)] at hV
        subst hV
        have h4 : n < 72057594037927936 := by omega
        go_enter Tryz.func25, Tryz.ntmps25
        go_wp2_with (go_at_call 21; refine (HW _).mono ?_; rintro e w' ⟨rfl, rfl⟩)
        go_ret
        exact ⟨rfl, rfl⟩
end Go.Proofs.YtepeehjajhehfaaGreatDoor
