/- spec.PutBytes. -/
import Derived.Test.YtagjbndcbcepcaaDoorFitsB
namespace Go.Proofs.YtagjbndcbcepcaaDoor
open Go.RowKit Go.PlainAid
set_option linter.unusedVariables false

def u8 (x : Int) : UInt8 := UInt8.ofNat (x % 256).toNat
theorem u8_toNat (x : Int) : ((u8 x).toNat : Int) = x % 256 := by
  unfold u8
  rw [UInt8.toNat_ofNat']
  omega
/-- The last t bytes of a number, the highest one first. -/
def be : Nat → Int → List UInt8
  | 0, _ => []
  | t + 1, n => u8 (n / ((256 ^ t : Nat) : Int)) :: be t n
theorem be_len : ∀ (t : Nat) (n : Int), (be t n).length = t
  | 0, _ => rfl
  | t + 1, n => by simp [be, be_len t n]
theorem be_next (t : Nat) (n : Int) : n / ((256 ^ t : Nat) : Int) / 256 = n / ((256 ^ (t + 1) : Nat) : Int) := by
  rw [Int.ediv_ediv_of_nonneg (Int.natCast_nonneg _), Nat.pow_succ, Int.natCast_mul]
  rfl
theorem msk_f (c : UInt8) : msk false c = c.toNat := rfl
theorem msk_t (c : UInt8) : msk true c = 255 - c.toNat := rfl
theorem dig_eq (neg : Bool) (N t : Nat) : msk neg (u8 (sg neg N / ((256 ^ t : Nat) : Int))) = N / 256 ^ t % 256 := by
  have hp : 0 < 256 ^ t := Nat.pow_pos (by omega)
  cases neg with
  | false =>
    have e : sg false N / ((256 ^ t : Nat) : Int) = ((N / 256 ^ t : Nat) : Int) := by
      show (N : Int) / _ = _
      rw [Int.natCast_ediv]
    rw [e, msk_f]
    have := u8_toNat ((N / 256 ^ t : Nat) : Int)
    generalize N / 256 ^ t = q at *
    omega
  | true =>
    have e : sg true N / ((256 ^ t : Nat) : Int) = -(((N / 256 ^ t : Nat) : Int) + 1) := by
      show (-1 - (N : Int)) / _ = _
      have hp' : (0 : Int) < ((256 ^ t : Nat) : Int) := Int.ofNat_lt.2 hp
      rw [show (-1 - (N : Int)) = Int.negSucc N by omega, Int.negSucc_ediv _ hp']
      show -((N : Int) / ((256 ^ t : Nat) : Int) + 1) = _
      rw [Int.natCast_ediv]
    rw [e, msk_t]
    have := u8_toNat (-(((N / 256 ^ t : Nat) : Int) + 1))
    generalize N / 256 ^ t = q at *
    omega
theorem bn_be (neg : Bool) (N : Nat) : ∀ (t acc : Nat), bn acc ((be t (sg neg N)).map (msk neg)) = acc * 256 ^ t + N % 256 ^ t
  | 0, acc => by simp [be, bn, Nat.mod_one]
  | t + 1, acc => by
    rw [be, List.map_cons, bn_cons, bn_be neg N t, dig_eq, Nat.pow_succ, Nat.mod_mul, Nat.add_mul, Nat.mul_assoc, Nat.mul_comm 256, Nat.mul_comm (N / 256 ^ t % 256)]
    omega
def headB (n : Int) : UInt8 := if n < 0 then 255 else 128
/-- A field with a number in base 256. -/
def fieldB (m : Nat) (n : Int) : List UInt8 := headB n :: be m n
theorem sg_of (n : Int) : ∃ (neg : Bool) (N : Nat), n = sg neg N ∧ neg = decide (n < 0) := by
  by_cases h : n < 0
  · exact ⟨true, (-1 - n).toNat, by simp only [sg]; simp; omega, by simp [h]⟩
  · exact ⟨false, n.toNat, by simp only [sg]; simp; omega, by simp [h]⟩
theorem fieldB_U {m : Nat} {n : Int} {neg : Bool} {N : Nat} (hn : n = sg neg N) (hneg : neg = decide (n < 0)) : negOf (headB n) = neg ∧ 128 ≤ (headB n).toNat ∧ bn 0 (digs neg (headB n) (be m n)) = N % 256 ^ m := by
  have h1 : negOf (headB n) = neg ∧ 128 ≤ (headB n).toNat ∧ msk neg (headB n) % 128 = 0 := by
    rw [hneg]
    unfold headB
    by_cases h : n < 0
    · simp only [h, if_true]; decide
    · simp only [h, if_false]; decide
  refine ⟨h1.1, h1.2.1, ?_⟩
  unfold digs
  rw [bn_cons, h1.2.2]
  subst hn
  have := bn_be neg N m 0
  simpa using this
theorem fits_N {m : Nat} {n : Int} {neg : Bool} {N : Nat} (hn : n = sg neg N) (hf : fitsB m n = true) (h1 : -9223372036854775808 ≤ n) (h2 : n ≤ 9223372036854775807) : N % 256 ^ m = N ∧ N < 9223372036854775808 := by
  have hN : N < 9223372036854775808 := by
    subst hn
    cases neg <;> simp only [sg] at h1 h2 <;> simp at h1 h2 <;> omega
  refine ⟨Nat.mod_eq_of_lt ?_, hN⟩
  unfold fitsB at hf
  by_cases h8 : 8 ≤ m
  · have h4 := Nat.pow_le_pow_right (n := 256) (by omega) h8
    have h5 : (256 : Nat) ^ 8 = 18446744073709551616 := by decide
    omega
  · simp only [h8, decide_false, Bool.false_or, Bool.and_eq_true, decide_eq_true_eq] at hf
    obtain ⟨p, hp⟩ : ∃ p : Nat, p = 256 ^ m := ⟨_, rfl⟩
    rw [← hp] at hf ⊢
    subst hn
    cases neg <;> simp only [sg] at hf <;> simp at hf <;> omega

theorem put_start (m : Nat) : zbs (1 + m) ++ be 0 0 = zbs (1 + m) := by simp [be]
theorem put_set {m t : Nat} (n : Int) (h : t < m) : (zbs (1 + (m - t)) ++ be t n).set (m - t) (u8 (n / ((256 ^ t : Nat) : Int))) = zbs (1 + (m - (t + 1))) ++ be (t + 1) n := by
  obtain ⟨k, hk⟩ : ∃ k, m - t = k + 1 := ⟨m - t - 1, by omega⟩
  rw [hk, show m - (t + 1) = k by omega, List.set_append_left _ _ (by rw [length_zbs]; omega)]
  have e : (zbs (1 + (k + 1))).set (k + 1) (u8 (n / ((256 ^ t : Nat) : Int))) = zbs (1 + k) ++ [u8 (n / ((256 ^ t : Nat) : Int))] := by
    have e2 : zbs (1 + (k + 1)) = zbs (1 + k) ++ [0] := by unfold zbs; rw [show 1 + (k + 1) = (1 + k) + 1 by omega, List.replicate_succ']
    rw [e2, List.set_append_right _ _ (by rw [length_zbs]; omega), length_zbs, show k + 1 - (1 + k) = 0 by omega]
    rfl
  rw [e, be, List.append_assoc]
  rfl
end Go.Proofs.YtagjbndcbcepcaaDoor
