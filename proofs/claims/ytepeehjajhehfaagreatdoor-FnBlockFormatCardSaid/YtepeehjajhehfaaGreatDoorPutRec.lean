/- The walk of spec.PutRecord. -/
import Derived.Test.YtepeehjajhehfaaGreatDoorNumW
namespace Go.Proofs.YtepeehjajhehfaaGreatDoor
open Go.RowKit Go.PlainAid
set_option linter.unusedVariables false

/-- What stands behind the number. -/
def recR (k v : ByteArray) : ByteArray := ⟨#[32]⟩ ++ k ++ ⟨#[61]⟩ ++ v ++ ⟨#[10]⟩
theorem recR_size (k v : ByteArray) : (recR k v).size = k.size + v.size + 3 := by
  unfold recR
  simp only [ByteArray.size_append]
  have h1 : (⟨#[32]⟩ : ByteArray).size = 1 := rfl
  have h2 : (⟨#[61]⟩ : ByteArray).size = 1 := rfl
  have h3 : (⟨#[10]⟩ : ByteArray).size = 1 := rfl
  omega
theorem numB_size (n : Nat) : (numB n).size = (numL n).length := by
  rw [Lib.size_eq]; rfl
/-- A width that fits is among the first eleven. -/
theorem width_exists (L : Nat) (h1 : 1 ≤ L) (h2 : L < 10000000000) : ∃ j, 1 ≤ j ∧ j ≤ 11 ∧ (numL (L + j)).length = j := by
  obtain ⟨a, ha⟩ : ∃ a, (numL L).length = a + 1 := ⟨(numL L).length - 1, by have := numL_pos L; omega⟩
  have lt := numL_lt L
  rw [ha] at lt
  have ge : 10 ^ a ≤ L := by
    by_cases h : 10 ≤ L
    · have := numL_ge L h; rwa [ha] at this
    · have e : (numL L).length = 1 := by rw [numL_small (by omega)]; rfl
      have : a = 0 := by omega
      subst this
      omega
  have ha9 : a ≤ 9 := by
    rcases Nat.lt_or_ge 9 a with h | h
    · have := Nat.pow_le_pow_right (n := 10) (by omega) h
      have e : (10 : Nat) ^ 10 = 10000000000 := by decide
      have : 10 ^ (9 + 1) ≤ 10 ^ a := this
      omega
    · exact h
  have big : 10 ^ (a + 1) + (a + 2) ≤ 10 ^ (a + 2) := by
    have e : (10 : Nat) ^ (a + 2) = 10 ^ (a + 1) * 10 := Nat.pow_succ ..
    have p : a + 1 < 10 ^ (a + 1) := Nat.lt_pow_self (by omega)
    omega
  by_cases c : L + (a + 1) < 10 ^ (a + 1)
  · exact ⟨a + 1, by omega, by omega, numL_len (by omega) c⟩
  · exact ⟨a + 2, by omega, by omega, numL_len (k := a + 1) (by omega) (by omega)⟩
def OutOk (R o : ByteArray) (k : Nat) : Prop := (o = ⟨#[]⟩ ∧ ∀ j, 1 ≤ j → j < k → (numL (R.size + j)).length ≠ j) ∨ ∃ j, 1 ≤ j ∧ j < k ∧ (numL (R.size + j)).length = j ∧ o = numB (R.size + j) ++ R
def PutPost (R : ByteArray) (w : World) (e : Ending) (w' : World) : Prop := (∃ j, 1 ≤ j ∧ j ≤ 18 ∧ (numL (R.size + j)).length = j ∧ e = .returned (.string (numB (R.size + j) ++ R))) ∧ Below w.heap.size w w'
theorem outOk_end {R o : ByteArray} (h : OutOk R o 19) (h1 : 1 ≤ R.size) (h2 : R.size < 10000000000) : ∃ j, 1 ≤ j ∧ j ≤ 18 ∧ (numL (R.size + j)).length = j ∧ o = numB (R.size + j) ++ R := by
  rcases h with ⟨_, h⟩ | ⟨j, a, b, c, d⟩
  · obtain ⟨j, a, b, c⟩ := width_exists R.size h1 h2
    exact absurd c (h j a (by omega))
  · exact ⟨j, a, by omega, c, d⟩
theorem outOk_no {R o : ByteArray} {k : Nat} (h : OutOk R o k) (hn : (numL (R.size + k)).length ≠ k) : OutOk R o (k + 1) := by
  rcases h with ⟨e, h⟩ | ⟨j, a, b, c, d⟩
  · refine .inl ⟨e, fun j h1 h2 => ?_⟩
    by_cases e2 : j = k
    · rw [e2]; exact hn
    · exact h j h1 (by omega)
  · exact .inr ⟨j, a, by omega, c, d⟩
theorem outOk_keep {R o : ByteArray} {k : Nat} (h : OutOk R o k) (hn : ¬ o.size = 0) : OutOk R o (k + 1) := by
  rcases h with ⟨e, h⟩ | ⟨j, a, b, c, d⟩
  · rw [e] at hn; exact absurd rfl hn
  · exact .inr ⟨j, a, by omega, c, d⟩
theorem outOk_yes {R : ByteArray} {k : Nat} (hk : 1 ≤ k) (hn : (numL (R.size + k)).length = k) : OutOk R (numB (R.size + k) ++ R) (k + 1) := .inr ⟨k, hk, by omega, hn, rfl⟩

theorem empty_yes' {h : ByteArray} (h0 : h.size = 0) : h.toList = [] ∧ h.toList.isEmpty = true := by
  have e := Lib.size_eq h
  have : h.toList = [] := by rw [Lib.toList_data]; exact List.eq_nil_of_length_eq_zero (by omega)
  exact ⟨this, by rw [this]; rfl⟩
theorem empty_no' {h : ByteArray} (h0 : ¬ h.size = 0) : ¬ h.toList = [] ∧ h.toList.isEmpty = false := by
  have e := Lib.size_eq h
  have : ¬ h.toList = [] := by rw [Lib.toList_data]; intro hh; rw [hh] at e; exact h0 e
  exact ⟨this, by cases hl : h.toList with
    | nil => exact absurd hl this
    | cons x l => rfl⟩
end Go.Proofs.YtepeehjajhehfaaGreatDoor
