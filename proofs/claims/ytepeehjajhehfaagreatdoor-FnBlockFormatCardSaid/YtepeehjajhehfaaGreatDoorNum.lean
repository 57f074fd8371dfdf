/- Decimal digits of a number: plain words; the walk of spec.number. -/
import Derived.Test.YtepeehjajhehfaaGreatDoorDec
namespace Go.Proofs.YtepeehjajhehfaaGreatDoor
open Go.RowKit Go.PlainAid
set_option linter.unusedVariables false

/-- The digits of a number. -/
def numL (n : Nat) : List UInt8 := if h : n < 10 then [UInt8.ofNat (48 + n)] else numL (n / 10) ++ [UInt8.ofNat (48 + n % 10)]
termination_by n
decreasing_by omega
def numB (n : Nat) : ByteArray := ⟨(numL n).toArray⟩
theorem numL_small {n : Nat} (h : n < 10) : numL n = [UInt8.ofNat (48 + n)] := by rw [numL, dif_pos h]
theorem numL_big {n : Nat} (h : ¬ n < 10) : numL n = numL (n / 10) ++ [UInt8.ofNat (48 + n % 10)] := by rw [numL, dif_neg h]
theorem digB_toNat {d : Nat} (h : d < 10) : (UInt8.ofNat (48 + d)).toNat = 48 + d := by
  rw [UInt8.toNat_ofNat']
  omega
theorem numL_ind {P : Nat → List UInt8 → Prop} (h1 : ∀ n, n < 10 → P n [UInt8.ofNat (48 + n)]) (h2 : ∀ n, ¬ n < 10 → P (n / 10) (numL (n / 10)) → P n (numL (n / 10) ++ [UInt8.ofNat (48 + n % 10)])) : ∀ n, P n (numL n) := by
  intro n
  induction n using Nat.strongRecOn with
  | _ n ih =>
    by_cases h : n < 10
    · rw [numL_small h]; exact h1 n h
    · rw [numL_big h]; exact h2 n h (ih (n / 10) (by omega))
theorem numL_dig (n : Nat) : allDig (numL n) := by
  refine numL_ind (P := fun _ l => allDig l) ?_ ?_ n
  · intro n h c hc
    rw [List.mem_singleton.1 hc]
    unfold dig
    rw [digB_toNat h]
    omega
  · intro n h ih c hc
    rcases List.mem_append.1 hc with hc | hc
    · exact ih c hc
    · rw [List.mem_singleton.1 hc]
      unfold dig
      rw [digB_toNat (by omega)]
      omega
theorem numL_vl (n : Nat) : vl 0 (numL n) = n := by
  refine numL_ind (P := fun n l => vl 0 l = n) ?_ ?_ n
  · intro n h
    rw [vl_cons, digB_toNat h]
    simp [vl]
  · intro n h ih
    rw [vl_snoc, ih, digB_toNat (by omega)]
    omega
theorem numL_pos (n : Nat) : 0 < (numL n).length := by
  refine numL_ind (P := fun _ l => 0 < l.length) ?_ ?_ n
  · intro n h; simp
  · intro n h ih; simp
theorem numL_lt (n : Nat) : n < 10 ^ (numL n).length := by
  refine numL_ind (P := fun n l => n < 10 ^ l.length) ?_ ?_ n
  · intro n h; simpa using h
  · intro n h ih
    rw [List.length_append, List.length_singleton, Nat.pow_succ]
    omega
theorem numL_ge (n : Nat) (h : 10 ≤ n) : 10 ^ ((numL n).length - 1) ≤ n := by
  revert h
  refine numL_ind (P := fun n l => 10 ≤ n → 10 ^ (l.length - 1) ≤ n) ?_ ?_ n
  · intro n h h2; omega
  · intro n h ih h2
    rw [List.length_append, List.length_singleton, Nat.add_sub_cancel]
    by_cases h3 : 10 ≤ n / 10
    · have h4 := ih h3
      obtain ⟨k, hk⟩ : ∃ k, (numL (n / 10)).length = k + 1 := ⟨(numL (n / 10)).length - 1, by have := numL_pos (n / 10); omega⟩
      rw [hk, Nat.add_sub_cancel] at h4
      rw [hk, Nat.pow_succ]
      omega
    · rw [numL_small (by omega)]
      simp
      omega
theorem numL_head (n : Nat) (h : 0 < n) : ∃ c r, numL n = c :: r ∧ 49 ≤ c.toNat ∧ c.toNat ≤ 57 := by
  revert h
  refine numL_ind (P := fun n l => 0 < n → ∃ c r, l = c :: r ∧ 49 ≤ c.toNat ∧ c.toNat ≤ 57) ?_ ?_ n
  · intro n h h2
    exact ⟨_, _, rfl, by rw [digB_toNat h]; omega, by rw [digB_toNat h]; omega⟩
  · intro n h ih h2
    obtain ⟨c, r, e, a, b⟩ := ih (by omega)
    exact ⟨c, r ++ [UInt8.ofNat (48 + n % 10)], by rw [e]; rfl, a, b⟩
/-- The count of digits is told by the bounds. -/
theorem numL_len {n k : Nat} (h1 : 10 ^ k ≤ n) (h2 : n < 10 ^ (k + 1)) : (numL n).length = k + 1 := by
  have p := numL_pos n
  have l := numL_lt n
  have a : k < (numL n).length := by
    rcases Nat.lt_or_ge k (numL n).length with h | h
    · exact h
    · have := Nat.pow_le_pow_right (n := 10) (by omega) h
      omega
  by_cases h10 : 10 ≤ n
  · have g := numL_ge n h10
    rcases Nat.lt_or_ge ((numL n).length - 1) (k + 1) with h | h
    · omega
    · have := Nat.pow_le_pow_right (n := 10) (by omega) h
      omega
  · have e : (numL n).length = 1 := by rw [numL_small (by omega)]; rfl
    omega
end Go.Proofs.YtepeehjajhehfaaGreatDoor
