/- Numbers in base 256: plain words. -/
import Derived.Test.YtagjbndcbcepcaaDoorO8
import Derived.Laws.BitsAllLaws
namespace Go.Proofs.YtagjbndcbcepcaaDoor
open Go.RowKit Go.PlainAid
set_option linter.unusedVariables false

/-- A byte as it counts in a number in base 256: turned over in a negative one. -/
def msk (neg : Bool) (c : UInt8) : Nat := if neg then 255 - c.toNat else c.toNat
theorem msk_lt (neg : Bool) (c : UInt8) : msk neg c < 256 := by
  have := c.toNat_lt
  unfold msk
  split <;> omega
def fillB (neg : Bool) : Nat := if neg then 255 else 0
theorem xor255 : ∀ c : Fin 256, (c.val ^^^ 255) = 255 - c.val := by decide +kernel
theorem xor_msk (neg : Bool) (c : UInt8) : bits .xor .u8 (c.toNat : Int) (fillB neg : Nat) = (msk neg c : Nat) := by
  have hc : c.toNat < 256 := c.toNat_lt
  cases neg with
  | true =>
    rw [u8_xor_nat _ _ hc (by decide)]
    exact congrArg _ (xor255 ⟨c.toNat, hc⟩)
  | false =>
    rw [u8_xor_nat _ _ hc (by decide)]
    exact congrArg _ (Nat.xor_zero _)
theorem and127 (d : Nat) (h : d < 256) : bits .and .u8 (d : Int) 127 = ((d % 128 : Nat) : Int) := by
  rw [show (127 : Int) = ((127 : Nat) : Int) from rfl, u8_and_nat d 127 h (by decide), nat_mask7]
theorem and128 (c : UInt8) : bits .and .u8 (c.toNat : Int) 128 = ((c.toNat / 128 * 128 : Nat) : Int) := by
  have hc : c.toNat < 256 := c.toNat_lt
  have e := nat_bit 7 c.toNat
  rw [show (2 : Nat) ^ 7 = 128 from rfl] at e
  rw [show (128 : Int) = ((128 : Nat) : Int) from rfl, u8_and_nat _ 128 hc (by decide), e, Nat.mod_eq_of_lt (by omega)]
theorem and64 (c : UInt8) (h : 128 ≤ c.toNat) : bits .and .u8 (c.toNat : Int) 64 = if 192 ≤ c.toNat then 64 else 0 := by
  have hc : c.toNat < 256 := c.toNat_lt
  have e := nat_bit 6 c.toNat
  rw [show (2 : Nat) ^ 6 = 64 from rfl] at e
  rw [show (64 : Int) = ((64 : Nat) : Int) from rfl, u8_and_nat _ 64 hc (by decide), e]
  split
  · rw [show c.toNat / 64 % 2 = 1 by omega, Nat.one_mul]
  · rw [show c.toNat / 64 % 2 = 0 by omega, Nat.zero_mul]; rfl
set_option maxRecDepth 20000 in
theorem or_u64 (U d : Nat) (hU : U * 256 + 255 < 18446744073709551616) (hd : d < 256) : bits .or .u64 ((U : Int) * 256) (d : Int) = ((U * 256 + d : Nat) : Int) := by
  rw [show (U : Int) * 256 = ((U * 256 : Nat) : Int) by omega, u64_or_nat _ _ (by omega) (by omega), nat_join 8 (U * 256) d (by rw [show (2 : Nat) ^ 8 = 256 from rfl]; omega) (by rw [show (2 : Nat) ^ 8 = 256 from rfl]; omega)]
/-- The like of two whole numbers, the first one of either sign. -/
theorem or_i64 (q : Int) (d : Nat) (h1 : -9223372036854775808 ≤ q * 256) (h2 : q * 256 + 255 ≤ 9223372036854775807) (hd : d < 256) : bits .or .i64 (q * 256) (d : Int) = q * 256 + d := by
  show IntKind.i64.wrap ((BitVec.ofInt 64 (q * 256) ||| BitVec.ofInt 64 (d : Int)).toNat : Int) = _
  have e1 : (BitVec.ofInt 64 (q * 256)).toNat = (q * 256 % 18446744073709551616).toNat := by rw [BitVec.toNat_ofInt]; rfl
  have e2 : (BitVec.ofInt 64 (d : Int)).toNat = d := ofInt_u64 d (by omega)
  obtain ⟨m, hm⟩ : ∃ m, m = (q * 256 % 18446744073709551616).toNat := ⟨_, rfl⟩
  have hm2 : m % 256 = 0 := by omega
  rw [BitVec.toNat_or, e1, e2, ← hm, nat_join 8 m d (by rw [show (2 : Nat) ^ 8 = 256 from rfl]; omega) (by rw [show (2 : Nat) ^ 8 = 256 from rfl]; omega), IntKind.wrap_i64]
  omega

def bn (acc : Nat) (l : List Nat) : Nat := l.foldl (fun a d => a * 256 + d) acc
theorem bn_cons (acc d : Nat) (l : List Nat) : bn acc (d :: l) = bn (acc * 256 + d) l := by unfold bn; rw [List.foldl_cons]
theorem bn_snoc (acc d : Nat) (l : List Nat) : bn acc (l ++ [d]) = bn acc l * 256 + d := by simp [bn]
theorem bn_app (acc : Nat) (a b : List Nat) : bn acc (a ++ b) = bn (bn acc a) b := by simp [bn]
theorem bn_ge : ∀ (l : List Nat) (acc : Nat), acc ≤ bn acc l
  | [], acc => Nat.le_refl _
  | d :: l, acc => by
    have := bn_ge l (acc * 256 + d)
    rw [bn_cons]
    omega
theorem bn_grow {l : List Nat} {acc : Nat} (h : l ≠ []) : acc * 256 ≤ bn acc l := by
  cases l with
  | nil => exact absurd rfl h
  | cons d l =>
    rw [bn_cons]
    exact Nat.le_trans (Nat.le_add_right _ _) (bn_ge l (acc * 256 + d))
theorem bn_take {l : List Nat} {k d : Nat} (h : l[k]? = some d) : bn 0 (l.take (k + 1)) = bn 0 (l.take k) * 256 + d := by
  obtain ⟨hl, e⟩ := List.getElem?_eq_some_iff.1 h
  rw [List.take_succ_eq_append_getElem hl, e, bn_snoc]
theorem bn_over {l : List Nat} {k : Nat} (h : k < l.length) (hU : 72057594037927936 ≤ bn 0 (l.take k)) : 9223372036854775808 ≤ bn 0 l := by
  have e : bn 0 l = bn (bn 0 (l.take k)) (l.drop k) := by rw [← bn_app, List.take_append_drop]
  have h2 : l.drop k ≠ [] := fun e => by
    have := congrArg List.length e
    rw [List.length_drop, List.length_nil] at this
    omega
  have := bn_grow (acc := bn 0 (l.take k)) h2
  omega

/-- The digits of a number in base 256 of a field. -/
def digs (neg : Bool) (c : UInt8) (r : List UInt8) : List Nat := (msk neg c % 128) :: r.map (msk neg)
theorem digs_len (neg : Bool) (c : UInt8) (r : List UInt8) : (digs neg c r).length = r.length + 1 := by simp [digs]
theorem digs_0 (neg : Bool) (c : UInt8) (r : List UInt8) : (digs neg c r)[0]? = some (msk neg c % 128) := rfl
theorem digs_at {neg : Bool} {c x : UInt8} {r : List UInt8} {k : Nat} (hk : k ≠ 0) (h : (c :: r)[k]? = some x) : (digs neg c r)[k]? = some (msk neg x) := by
  obtain ⟨m, rfl⟩ : ∃ m, k = m + 1 := ⟨k - 1, by omega⟩
  have h' : r[m]? = some x := by simpa using h
  show (r.map (msk neg))[m]? = _
  rw [List.getElem?_map, h']
  rfl
def negOf (c : UInt8) : Bool := decide (192 ≤ c.toNat)
/-- The number of digits U, with its sign. -/
def sg (neg : Bool) (U : Nat) : Int := if neg then -1 - U else U
/-- What is read of a field whose first byte is not below 128. -/
def BinR (c : UInt8) (r : List UInt8) (y : Int) (ok : Bool) : Prop :=
  (bn 0 (digs (negOf c) c r) < 9223372036854775808 ∧ ok = true ∧ y = sg (negOf c) (bn 0 (digs (negOf c) c r))) ∨ (9223372036854775808 ≤ bn 0 (digs (negOf c) c r) ∧ ok = false)
end Go.Proofs.YtagjbndcbcepcaaDoor
