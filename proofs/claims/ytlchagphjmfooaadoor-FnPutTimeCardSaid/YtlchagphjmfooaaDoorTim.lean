/- Times of records: plain words on nine digits. -/
import Derived.Test.YtlchagphjmfooaaDoorNum
namespace Go.Proofs.YtlchagphjmfooaaDoor
open Go.RowKit Go.PlainAid
set_option linter.unusedVariables false

/-- Nine digits: the first k of a list, nought behind. -/
def nineL (l : List UInt8) (k : Nat) : List UInt8 := (l.take k ++ List.replicate 9 48).take 9
theorem nineL_len (l : List UInt8) (k : Nat) : (nineL l k).length = 9 := by
  unfold nineL
  rw [List.length_take, List.length_append, List.length_replicate]
  omega
theorem nineL_zero (l : List UInt8) : nineL l 0 = [48, 48, 48, 48, 48, 48, 48, 48, 48] := by
  unfold nineL
  rw [List.take_zero]
  rfl
theorem nineL_get (l : List UInt8) (k i : Nat) (hi : i < 9) : (nineL l k)[i]? = if i < k ∧ i < l.length then l[i]? else some 48 := by
  unfold nineL
  rw [List.getElem?_take, if_pos hi]
  by_cases h : i < k ∧ i < l.length
  · rw [if_pos h, List.getElem?_append_left (by rw [List.length_take]; omega), List.getElem?_take, if_pos h.1]
  · rw [if_neg h, List.getElem?_append_right (by rw [List.length_take]; omega), List.getElem?_replicate, if_pos (by rw [List.length_take]; omega)]
theorem nineL_set (l : List UInt8) (k : Nat) (c : UInt8) (hk : k < 9) (h : l[k]? = some c) : (nineL l k).set k c = nineL l (k + 1) := by
  have hl := (List.getElem?_eq_some_iff.1 h).1
  apply List.ext_getElem?
  intro i
  by_cases hi : i < 9
  · rw [List.getElem?_set, nineL_get _ _ _ hi, nineL_get _ _ _ hi, nineL_len]
    by_cases e : k = i
    · subst e
      rw [if_pos rfl, if_pos hk, if_pos ⟨by omega, hl⟩, h]
    · rw [if_neg e]
      by_cases h2 : i < k ∧ i < l.length
      · rw [if_pos h2, if_pos ⟨by omega, h2.2⟩]
      · rw [if_neg h2, if_neg (by omega)]
  · rw [List.getElem?_eq_none (by rw [List.length_set, nineL_len]; omega), List.getElem?_eq_none (by rw [nineL_len]; omega)]
theorem nineL_more (l : List UInt8) (k : Nat) (hk : 9 ≤ k) : nineL l (k + 1) = nineL l k := by
  apply List.ext_getElem?
  intro i
  by_cases hi : i < 9
  · rw [nineL_get _ _ _ hi, nineL_get _ _ _ hi]
    by_cases h : i < l.length
    · rw [if_pos ⟨by omega, h⟩, if_pos ⟨by omega, h⟩]
    · rw [if_neg (by omega), if_neg (by omega)]
  · rw [List.getElem?_eq_none (by rw [nineL_len]; omega), List.getElem?_eq_none (by rw [nineL_len]; omega)]
theorem nineL_dig {l : List UInt8} (k : Nat) (h : ∀ c ∈ l.take k, dig c) : allDig (nineL l k) := by
  intro c hc
  have hc2 := List.mem_of_mem_take hc
  rcases List.mem_append.1 hc2 with h1 | h1
  · exact h c h1
  · rw [(List.mem_replicate.1 h1).2]
    unfold dig
    decide
/-- The number of those nine digits. -/
def nano (l : List UInt8) : Nat := vl 0 (nineL l l.length)
theorem vl_bound : ∀ (l : List UInt8) (acc : Nat), allDig l → vl acc l < (acc + 1) * 10 ^ l.length
  | [], acc, _ => by simp [vl]
  | c :: l, acc, h => by
    obtain ⟨h1, h2⟩ := allDig_cons.1 h
    unfold dig at h1
    have := vl_bound l (acc * 10 + (c.toNat - 48)) h2
    rw [vl_cons, List.length_cons, Nat.pow_succ]
    have e : (acc * 10 + (c.toNat - 48) + 1) * 10 ^ l.length ≤ (acc * 10 + 10) * 10 ^ l.length := Nat.mul_le_mul_right _ (by omega)
    have e2 : (acc * 10 + 10) * 10 ^ l.length = (acc + 1) * (10 ^ l.length * 10) := by
      rw [show acc * 10 + 10 = (acc + 1) * 10 by omega, Nat.mul_assoc, Nat.mul_comm 10]
    omega
theorem nineL_all (l : List UInt8) (k : Nat) (hk : l.length ≤ k) : nineL l k = nineL l l.length := by
  unfold nineL
  rw [List.take_of_length_le hk, List.take_length]
theorem nano_lt {l : List UInt8} (h : allDig l) : nano l < 1000000000 := by
  have h1 := vl_bound (nineL l l.length) 0 (nineL_dig _ (by rw [List.take_length]; exact h))
  rw [nineL_len] at h1
  unfold nano
  have e : (0 + 1) * 10 ^ 9 = 1000000000 := by decide
  omega
theorem vl_zeros (n acc : Nat) : vl acc (List.replicate n 48) = acc * 10 ^ n := by
  induction n generalizing acc with
  | zero => simp [vl]
  | succ n ih =>
    rw [List.replicate_succ, vl_cons, ih, Nat.pow_succ]
    have : (48 : UInt8).toNat - 48 = 0 := by decide
    rw [this, Nat.add_zero, Nat.mul_assoc, Nat.mul_comm 10]
/-- Noughts behind change nothing. -/
theorem nano_zeros (l : List UInt8) (n : Nat) : nano (l ++ List.replicate n 48) = nano l := by
  unfold nano nineL
  rw [List.take_length, List.take_length, List.append_assoc, List.replicate_append_replicate]
  congr 1
  apply List.ext_getElem?
  intro i
  rw [List.getElem?_take, List.getElem?_take]
  by_cases hi : i < 9
  · rw [if_pos hi, if_pos hi]
    by_cases h : i < l.length
    · rw [List.getElem?_append_left h, List.getElem?_append_left h]
    · rw [List.getElem?_append_right (by omega), List.getElem?_append_right (by omega), List.getElem?_replicate, List.getElem?_replicate, if_pos (by omega), if_pos (by omega)]
  · rw [if_neg hi, if_neg hi]
theorem nano_nil : nano [] = 0 := by decide
/-- Nine digits tell their number. -/
theorem nano_nine {l : List UInt8} (h : l.length = 9) : nano l = vl 0 l := by
  unfold nano nineL
  rw [List.take_length, List.take_left' h]
end Go.Proofs.YtlchagphjmfooaaDoor
