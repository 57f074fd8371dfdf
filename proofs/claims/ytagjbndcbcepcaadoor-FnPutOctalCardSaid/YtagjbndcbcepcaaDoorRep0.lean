/- strings.Repeat of "0". -/
import Derived.Test.YtagjbndcbcepcaaDoorPutO
import Derived.Test.YtagjbndcbcepcaaDoorShelf
namespace Go.Proofs.YtagjbndcbcepcaaDoor
open Go.RowKit Go.PlainAid
set_option linter.unusedVariables false


set_option maxHeartbeats 400000 in
set_option maxRecDepth 20000 in
theorem hasPrefix0 (s p : ByteArray) (b : Bool) (w : World) (h1 : p.size ≤ s.size) (hs : s.size ≤ 281474976710656) (hb : ((s.extract 0 p.size).toList == p.toList) = b) :
    Calls Tryd.prog 77 #[.string s, .string p] w fun e w' => e = .returned (.bool b) ∧ w = w' := by
  have h1' : (p.size : Int) ≤ (s.size : Int) := by omega
  go_enter Tryd.func77, Tryd.ntmps77
  go_wp2
  go_ret
  exact ⟨rfl, rfl⟩
set_option maxHeartbeats 400000 in
set_option maxRecDepth 20000 in
theorem hasPrefix1 (s p : ByteArray) (b : Bool) (w : World) (h1 : p.size ≤ s.size) (hs : s.size ≤ 281474976710656) (hb : ((s.extract 0 p.size).toList == p.toList) = b) :
    Calls Tryd.prog 54 #[.string s, .string p] w fun e w' => e = .returned (.bool b) ∧ w = w' := by
  have HP := Lib.hid (hasPrefix0 s p b w h1 hs hb)
  clear hb
  go_enter Tryd.func54, Tryd.ntmps54
  go_wp2_with fail
  refine HP.out.mono ?_
  rintro e w1 ⟨rfl, rfl⟩
  go_wp2
  go_ret
  exact ⟨rfl, rfl⟩
theorem zeros_cut : ∀ k : Fin 23, (mkS (List.replicate 64 48)).extract 0 k.val = mkS (List.replicate k.val 48) := by decide +kernel
set_option maxHeartbeats 3200000 in
set_option maxRecDepth 20000 in
theorem repeat0 (k : Nat) (w : World) (hk : 1 < k) (hk2 : k ≤ 22) :
    Calls Tryd.prog 40 #[.string ⟨#[48]⟩, .int .i64 (k : Int)] w fun e w' => e = .returned (.string (mkS (List.replicate k 48))) ∧ w = w' := by
  have hm0 : 1 * k / 18446744073709551616 = 0 := by omega
  have hm1 : 1 * k % 18446744073709551616 = k := by omega
  have HM : Hid (∀ w, Calls Tryd.prog 53 #[.int .u64 1, .int .u64 (k : Int)] w fun e w' => e = .returned (.tuple #[.int .u64 0, .int .u64 (k : Int)]) ∧ w' = w) := Lib.hid (fun w => by
    have := Tryd.bits_Mul 1 k (by omega) (by omega) w
    rw [hm0, hm1] at this
    exact this)
  have hk0 : ((k : Int) == 0) = false := by rw [beq_eq_false_iff_ne]; omega
  have hk1 : ((k : Int) == 1) = false := by rw [beq_eq_false_iff_ne]; omega
  have hk64 : (k : Int) ≤ 64 := by omega
  have hk128 : (k : Int) ≤ 128 := by omega
  clear hm0 hm1
  go_enter Tryd.func40, Tryd.ntmps40
  go_wp2_with fail
  refine (HM.out _).mono ?_
  rintro e w1 ⟨rfl, hw1⟩
  rw [hw1]
  clear hw1
  go_wp2_with fail
  refine (hasPrefix1 _ _ false _ (by decide +kernel) (by decide +kernel) (by decide +kernel)).mono ?_
  rintro e w1 ⟨rfl, rfl⟩
  go_wp2_with fail
  refine (hasPrefix1 _ _ false _ (by decide +kernel) (by decide +kernel) (by decide +kernel)).mono ?_
  rintro e w1 ⟨rfl, rfl⟩
  go_wp2_with fail
  refine (hasPrefix1 _ _ true _ (by decide +kernel) (by decide +kernel) (by decide +kernel)).mono ?_
  rintro e w1 ⟨rfl, rfl⟩
  go_wp2
  go_ret
  exact ⟨congrArg (fun b => Ending.returned (.string b)) (zeros_cut ⟨k, by omega⟩), rfl⟩
set_option maxHeartbeats 400000 in
set_option maxRecDepth 20000 in
theorem repeat1 (w : World) : Calls Tryd.prog 40 #[.string ⟨#[48]⟩, .int .i64 1] w fun e w' => e = .returned (.string (mkS (List.replicate 1 48))) ∧ w = w' := by
  go_enter Tryd.func40, Tryd.ntmps40
  go_wp2
  go_ret
  exact ⟨rfl, rfl⟩
theorem repeat_any (k : Nat) (i : Int) (w : World) (hi : i = (k : Int)) (hk : 1 ≤ k) (hk2 : k ≤ 22) :
    Calls Tryd.prog 40 #[.string ⟨#[48]⟩, .int .i64 i] w fun e w' => e = .returned (.string (mkS (List.replicate k 48))) ∧ w = w' := by
  subst hi
  by_cases h1 : k = 1
  · subst h1
    exact repeat1 w
  · exact repeat0 k w (by omega) hk2
/-- Noughts ahead are the digits above. -/
theorem od_pad (N : Nat) : ∀ (k s : Nat), N < 8 ^ s → List.replicate k 48 ++ od s (N : Int) = od (k + s) (N : Int)
  | 0, s, _ => by simp
  | k + 1, s, h => by
    have h2 : N < 8 ^ (k + s) := Nat.lt_of_lt_of_le h (Nat.pow_le_pow_right (by omega) (by omega))
    rw [List.replicate_succ, List.cons_append, od_pad N k s h, show k + 1 + s = (k + s) + 1 by omega, od]
    have e : (N : Int) / ((8 ^ (k + s) : Nat) : Int) = 0 := by rw [← Int.natCast_ediv, Nat.div_eq_of_lt h2]; rfl
    rw [e]
    rfl
end Go.Proofs.YtagjbndcbcepcaaDoor
