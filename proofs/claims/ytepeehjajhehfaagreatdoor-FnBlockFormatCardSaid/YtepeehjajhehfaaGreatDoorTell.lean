/- The law FnSumsTellOneByte: its plain part and its walk. -/
import Derived.Test.YtepeehjajhehfaaGreatDoorSumsLaw
import Derived.Test.YtepeehjajhehfaaGreatDoorMB
import Derived.Laws.BitsAllLaws
namespace Go.Proofs.YtepeehjajhehfaaGreatDoor
open Go.RowKit

theorem byt_set (bs : List UInt8) (p k : Nat) (v : UInt8) (hp : p < bs.length) : byt (bs.set p v) k = if k = p then (v.toNat : Int) else byt bs k := by
  unfold byt
  by_cases h : k = p
  · subst h; simp [List.getD, hp]
  · simp [List.getD, h, List.getElem?_set_ne (Ne.symm h)]
theorem bys_set (bs : List UInt8) (p : Nat) (v : UInt8) : (bys bs).set p (.int .u8 (v.toNat : Int)) = bys (bs.set p v) := by simp [bys, List.map_set]
theorem sumU_set (bs : List UInt8) (p : Nat) (v : UInt8) (hp : p < bs.length) (k : Nat) :
    sumU (bs.set p v) k = sumU bs k + if p < k ∧ ¬ (148 ≤ p ∧ p < 156) then (v.toNat : Int) - byt bs p else 0 := by
  induction k with
  | zero => simp [sumU]
  | succ k ih =>
    rw [sumU, sumU, ih, byt_set bs p k v hp]
    by_cases h1 : k = p
    · subst h1
      by_cases h2 : 148 ≤ k ∧ k < 156
      · simp [h2]
      · simp [h2]; omega
    · by_cases h2 : 148 ≤ p ∧ p < 156
      · simp [h1, h2]
      · by_cases h3 : p < k
        · simp [h1, h2, h3, show p < k + 1 by omega]; omega
        · simp [h1, h3, show ¬ p < k + 1 by omega]
theorem sumS_set (bs : List UInt8) (p : Nat) (v : UInt8) (hp : p < bs.length) (k : Nat) :
    sumS (bs.set p v) k = sumS bs k + if p < k ∧ ¬ (148 ≤ p ∧ p < 156) then sgn (v.toNat : Int) - sgn (byt bs p) else 0 := by
  induction k with
  | zero => simp [sumS]
  | succ k ih =>
    rw [sumS, sumS, ih, byt_set bs p k v hp]
    by_cases h1 : k = p
    · subst h1
      by_cases h2 : 148 ≤ k ∧ k < 156
      · simp [h2]
      · simp [h2]; omega
    · by_cases h2 : 148 ≤ p ∧ p < 156
      · simp [h1, h2]
      · by_cases h3 : p < k
        · simp [h1, h2, h3, show p < k + 1 by omega]; omega
        · simp [h1, h3, show ¬ p < k + 1 by omega]
theorem sumU_ge (bs : List UInt8) (k : Nat) : (if 149 ≤ k then (32 : Int) else 0) ≤ sumU bs k := by
  induction k with
  | zero => simp [sumU]
  | succ k ih =>
    have := byt_lo bs k
    have := sumU_bd bs k
    unfold sumU
    by_cases h : 148 ≤ k ∧ k < 156
    · rw [if_pos h]; split <;> omega
    · rw [if_neg h]
      split
      · rw [if_pos (by omega)] at ih; omega
      · split at ih <;> omega
theorem SU_pos (bs : List UInt8) : 0 < SU bs := by
  have := sumU_ge bs 512
  unfold SU
  rw [if_pos (by omega)] at this
  omega
theorem sgn_inj (a b : Int) (ha : 0 ≤ a) (ha' : a ≤ 255) (hb : 0 ≤ b) (hb' : b ≤ 255) (h : sgn a = sgn b) : a = b := by
  unfold sgn at h
  split at h <;> split at h <;> omega

/-- What one changed byte does. -/
theorem tell_plain (P : List UInt8) (hl : P.length = 512) (p : Nat) (hp : p < 512) (c : Int) (hc0 : 0 ≤ c) (hc1 : c ≤ 255) (hcz : c ≠ 0) :
    ∃ v : UInt8, bits .xor .u8 (byt P p) c = (v.toNat : Int) ∧
      (148 ≤ p ∧ p < 156 → SU (P.set p v) = SU P ∧ SS (P.set p v) = SS P) ∧
      (¬ (148 ≤ p ∧ p < 156) → SU (P.set p v) ≠ SU P ∧ SS (P.set p v) ≠ SS P) := by
  have b0 := byt_lo P p
  have b1 := byt_hi P p
  have hx := u8_xor (byt P p) c b0 (by omega) hc0 (by omega)
  have hlt : (byt P p).toNat ^^^ c.toNat < 256 := by
    have := Nat.xor_lt_two_pow (x := (byt P p).toNat) (y := c.toNat) (n := 8) (by omega) (by omega)
    omega
  refine ⟨UInt8.ofNat ((byt P p).toNat ^^^ c.toNat), ?_, ?_, ?_⟩
  · rw [hx]
    have : (UInt8.ofNat ((byt P p).toNat ^^^ c.toNat)).toNat = (byt P p).toNat ^^^ c.toNat := by
      rw [UInt8.toNat_ofNat']; exact Nat.mod_eq_of_lt hlt
    rw [this]
  · intro hin
    unfold SU SS
    rw [sumU_set P p _ (by omega), sumS_set P p _ (by omega)]
    simp [hin]
  · intro hout
    have hv : (UInt8.ofNat ((byt P p).toNat ^^^ c.toNat)).toNat = (byt P p).toNat ^^^ c.toNat := by
      rw [UInt8.toNat_ofNat']; exact Nat.mod_eq_of_lt hlt
    have hne : ((byt P p).toNat ^^^ c.toNat) ≠ (byt P p).toNat := by
      intro h
      have h2 : (byt P p).toNat ^^^ ((byt P p).toNat ^^^ c.toNat) = (byt P p).toNat ^^^ (byt P p).toNat := by rw [h]
      rw [← Nat.xor_assoc, Nat.xor_self, Nat.zero_xor] at h2
      omega
    unfold SU SS
    rw [sumU_set P p _ (by omega), sumS_set P p _ (by omega), if_pos ⟨hp, hout⟩, if_pos ⟨hp, hout⟩, hv]
    refine ⟨by omega, fun h => ?_⟩
    have h3 : sgn (((byt P p).toNat ^^^ c.toNat : Nat) : Int) = sgn (byt P p) := by omega
    have := sgn_inj _ _ (by omega) (by omega) b0 b1 h3
    omega

end Go.Proofs.YtepeehjajhehfaaGreatDoor
