/- spec.PutOctal. -/
import Derived.Test.YtagjbndcbcepcaaDoorFitsO
import Derived.Test.YtagjbndcbcepcaaDoorOctL
namespace Go.Proofs.YtagjbndcbcepcaaDoor
open Go.RowKit Go.PlainAid
set_option linter.unusedVariables false

def dO (x : Int) : UInt8 := UInt8.ofNat (48 + (x % 8).toNat)
theorem dO_toNat (x : Int) : ((dO x).toNat : Int) = 48 + x % 8 := by
  unfold dO
  rw [UInt8.toNat_ofNat']
  omega
theorem dO_d8 (x : Int) : d8 (dO x) := by
  have := dO_toNat x
  unfold d8
  omega
/-- The last t octal digits of a number, the highest one first. -/
def od : Nat → Int → List UInt8
  | 0, _ => []
  | t + 1, n => dO (n / ((8 ^ t : Nat) : Int)) :: od t n
theorem od_len : ∀ (t : Nat) (n : Int), (od t n).length = t
  | 0, _ => rfl
  | t + 1, n => by simp [od, od_len t n]
theorem od_all8 : ∀ (t : Nat) (n : Int), all8 (od t n)
  | 0, _ => fun c hc => by simp [od] at hc
  | t + 1, n => all8_cons.2 ⟨dO_d8 _, od_all8 t n⟩
theorem od_v8 (N : Nat) : ∀ (t acc : Nat), v8 acc (od t (N : Int)) = acc * 8 ^ t + N % 8 ^ t
  | 0, acc => by simp [od, v8, Nat.mod_one]
  | t + 1, acc => by
    have e : (dO ((N : Int) / ((8 ^ t : Nat) : Int))).toNat - 48 = N / 8 ^ t % 8 := by
      have := dO_toNat ((N : Int) / ((8 ^ t : Nat) : Int))
      rw [← Int.natCast_ediv] at this ⊢
      generalize N / 8 ^ t = q at *
      omega
    rw [od, v8_cons, od_v8 N t, e, Nat.pow_succ, Nat.mod_mul, Nat.add_mul, Nat.mul_assoc, Nat.mul_comm 8, Nat.mul_comm (N / 8 ^ t % 8)]
    omega
theorem fitsO_pos {j : Nat} {n : Int} (h : fitsO j n = true) : 0 ≤ n ∧ n < ((8 ^ j : Nat) : Int) := by
  unfold fitsO at h
  simpa using h
/-- Digits and what ends them: read as the documents say. -/
theorem octR_field {D : Nat} {n y : Int} {ok : Bool} {e : List UInt8} (hD : 1 ≤ D) (hD2 : D ≤ 21) (hf : fitsO D n = true) (he : e ≠ []) (hE : allEnd e) (hR : OctR (od D n ++ e) y ok) : ok = true ∧ y = n := by
  obtain ⟨h0, h1⟩ := fitsO_pos hf
  obtain ⟨N, rfl⟩ : ∃ N : Nat, n = (N : Int) := ⟨n.toNat, by omega⟩
  have hv := od_v8 N D 0
  have hlt : N < 8 ^ D := Int.ofNat_lt.1 h1
  rw [Nat.mod_eq_of_lt hlt, Nat.zero_mul, Nat.zero_add] at hv
  have hne : od D (N : Int) ≠ [] := fun h => by
    have := congrArg List.length h
    rw [od_len, List.length_nil] at this
    omega
  rcases octR_of_octS (x := ((v8 0 (od D (N : Int)) : Nat) : Int)) (v := 1) (.inr (.inr ⟨rfl, _, e, rfl, od_all8 _ _, hne, by rw [od_len]; exact hD2, he, hE, rfl⟩)) hR with h | ⟨h, _⟩ | ⟨_, h, h'⟩
  · omega
  · omega
  · exact ⟨h, by rw [h', hv]⟩
theorem and7 (q : Int) (h : 0 ≤ q) (h2 : q ≤ 9223372036854775807) : bits .and .i64 q 7 = q % 8 := by
  obtain ⟨Q, rfl⟩ : ∃ Q : Nat, q = (Q : Int) := ⟨q.toNat, by omega⟩
  show IntKind.i64.wrap ((BitVec.ofInt 64 (Q : Int) &&& BitVec.ofInt 64 ((7 : Nat) : Int)).toNat : Int) = _
  rw [BitVec.toNat_and, ofInt_u64 Q (by omega), ofInt_u64 7 (by omega), nat_mask3, IntKind.wrap_i64]
  omega
theorem putO_set {D t T : Nat} (n : Int) (h : t < D) : (zbs (D - t) ++ od t n ++ zbs T).set (D - 1 - t) (dO (n / ((8 ^ t : Nat) : Int))) = zbs (D - (t + 1)) ++ od (t + 1) n ++ zbs T := by
  obtain ⟨k, hk⟩ : ∃ k, D - t = k + 1 := ⟨D - t - 1, by omega⟩
  rw [hk, show D - (t + 1) = k by omega, show D - 1 - t = k by omega, List.append_assoc, List.set_append_left _ _ (by rw [length_zbs]; omega)]
  have e : (zbs (k + 1)).set k (dO (n / ((8 ^ t : Nat) : Int))) = zbs k ++ [dO (n / ((8 ^ t : Nat) : Int))] := by
    have e2 : zbs (k + 1) = zbs k ++ [0] := by unfold zbs; rw [List.replicate_succ']
    rw [e2, List.set_append_right _ _ (by rw [length_zbs]; omega), length_zbs, Nat.sub_self]
    rfl
  rw [e, od, List.append_assoc, List.append_assoc]
  rfl
theorem allEnd_zbs (T : Nat) : allEnd (zbs T) := fun c hc => .inr (by unfold zbs at hc; exact (List.mem_replicate.1 hc).2)
theorem allEnd_set {e : List UInt8} (h : allEnd e) (i : Nat) : allEnd (e.set i 32) := fun c hc => by
  rcases List.mem_or_eq_of_mem_set hc with h1 | h1
  · exact h c h1
  · exact .inl h1
end Go.Proofs.YtagjbndcbcepcaaDoor
