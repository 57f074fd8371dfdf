/- The walk of laws.below: a number brought into the range from 0 to n-1. -/
import Derived.Test.YtlchagphjmfooaaDoorRows
import Derived.Test.YtlchagphjmfooaaDoorW
namespace Go.Proofs.YtlchagphjmfooaaDoor
open Go.RowKit

theorem tmod_neg_fix (x n : Int) (hn : 0 < n) (hx : x < 0) : x.tmod n = if x % n = 0 then 0 else x % n - n := by
  have h := Int.tmod_eq_emod (a := x) (b := n)
  rw [h]
  have hd : (n ∣ x) ↔ x % n = 0 := Int.dvd_iff_emod_eq_zero
  have hnat : (n.natAbs : Int) = n := by omega
  by_cases h0 : x % n = 0
  · have : n ∣ x := hd.2 h0
    simp [h0, this]
  · have : ¬ n ∣ x := fun hh => h0 (hd.1 hh)
    have hx' : ¬ 0 ≤ x := by omega
    simp [h0, this, hx', hnat]

set_option maxRecDepth 20000 in
set_option maxHeartbeats 400000 in
theorem below_any (x n : Int) (w : World) (hx : -9223372036854775808 ≤ x) (hx' : x ≤ 9223372036854775807) (hn : 0 < n) (hn' : n ≤ 4611686018427387904) :
    Calls Tryd.prog 21 #[.int .i64 x, .int .i64 n] w fun e w' => e = .returned (.int .i64 (x % n)) ∧ w = w' := by
  have hn0 : (n == 0) = false := by simp; omega
  have hm1 := Int.emod_nonneg x (show n ≠ 0 by omega)
  have hm2 := Int.emod_lt_of_pos x hn
  by_cases h0 : 0 ≤ x
  · go_enter Tryd.func21, Tryd.ntmps21
    go_wp2
    go_ret
    exact ⟨rfl, rfl⟩
  · have ht := tmod_neg_fix x n hn (by omega)
    by_cases hz : x % n = 0
    · rw [if_pos hz] at ht
      have HZ := Lib.hid hz
      clear hz
      go_enter Tryd.func21, Tryd.ntmps21
      go_wp2
      go_ret
      exact ⟨by rw [HZ.out]; rfl, rfl⟩
    · rw [if_neg hz] at ht
      go_enter Tryd.func21, Tryd.ntmps21
      go_wp2
      go_ret
      exact ⟨rfl, rfl⟩
end Go.Proofs.YtlchagphjmfooaaDoor
