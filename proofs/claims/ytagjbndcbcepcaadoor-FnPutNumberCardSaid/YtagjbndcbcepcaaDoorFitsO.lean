/- Which numbers fit an octal field. -/
import Derived.Test.YtagjbndcbcepcaaDoorO8
import Derived.Test.YtagjbndcbcepcaaDoorBelow
import Derived.Test.YtagjbndcbcepcaaDoorO
namespace Go.Proofs.YtagjbndcbcepcaaDoor
open Go.RowKit Go.PlainAid
set_option linter.unusedVariables false

/-- Whether so many octal digits have room for a number. -/
def fitsO (j : Nat) (n : Int) : Bool := decide (0 ≤ n) && decide (n < ((8 ^ j : Nat) : Int))
def FitOP (j : Nat) (n : Int) (w : World) (e : Ending) (w' : World) : Prop := e = .returned (.bool (fitsO j n)) ∧ w = w'
theorem fitsO_yes {j : Nat} {n : Int} {p : Int} (hp : ((8 ^ j : Nat) : Int) = p) (h1 : 0 ≤ n) (h2 : n < p) : fitsO j n = true := by simp [fitsO, hp, h1, h2]
theorem fitsO_no {j : Nat} {n : Int} {p : Int} (hp : ((8 ^ j : Nat) : Int) = p) (h : ¬ (0 ≤ n ∧ n < p)) : fitsO j n = false := by
  unfold fitsO
  rw [hp]
  simp only [Bool.and_eq_false_iff, decide_eq_false_iff_not]
  omega
theorem o8_next (t : Nat) (n : Int) : n / ((8 ^ t : Nat) : Int) / 8 = n / ((8 ^ (t + 1) : Nat) : Int) := by
  rw [Int.ediv_ediv_of_nonneg (Int.natCast_nonneg _), Nat.pow_succ, Int.natCast_mul]
  rfl
theorem o8_zero {t : Nat} {n : Int} (h : 0 ≤ n) : n / ((8 ^ t : Nat) : Int) = 0 ↔ n < ((8 ^ t : Nat) : Int) := by
  have hp : (0 : Int) < ((8 ^ t : Nat) : Int) := Int.ofNat_lt.2 (Nat.pow_pos (by omega))
  constructor
  · intro e
    have h1 := Int.emod_lt_of_pos n hp
    have h2 := Int.mul_ediv_add_emod n ((8 ^ t : Nat) : Int)
    rw [e, Int.mul_zero] at h2
    omega
  · exact fun e => Int.ediv_eq_zero_of_lt h e

set_option maxHeartbeats 800000 in
set_option maxRecDepth 20000 in
theorem specFitsO (j : Nat) (z n : Int) (w : World) (hz : z = (j : Int) + 1) (hj : j ≤ 21) (h1 : -9223372036854775808 ≤ n) (h2 : n ≤ 9223372036854775807) :
    Calls Tryd.prog 12 #[.int .i64 z, .int .i64 n] w (FitOP j n w) := by
  by_cases hn : n < 0
  · have HB : Hid (fitsO j n = false) := Lib.hid (by unfold fitsO; rw [decide_eq_false (by omega : ¬ 0 ≤ n)]; rfl)
    go_enter Tryd.func12, Tryd.ntmps12
    go_wp2
    go_ret
    exact ⟨by rw [HB.out]; rfl, rfl⟩
  · subst hz
    have hj1 : ¬ (j : Int) + 1 < 1 := by omega
    have hmin : min (j : Int) 22 = (j : Int) := by omega
    have HN : Hid (0 ≤ n) := Lib.hid (by omega)
    go_enter Tryd.func12, Tryd.ntmps12
    go_wp2
    go_loop [1, 14] (fun v1 v14 => ∃ k : Nat, k ≤ j ∧ v14 = .int .i64 k ∧ ∃ q : Int, v1 = .int .i64 q ∧ -9223372036854775808 ≤ q ∧ q ≤ 9223372036854775807 ∧ Hid (q = n / ((8 ^ k : Nat) : Int))) (fun _ v14 => j - (intOf v14).toNat)
    case atStart => exact ⟨0, by omega, rfl, n, rfl, h1, h2, Lib.hid (by simp)⟩
    case round =>
      obtain ⟨k, hk, rfl, q, rfl, hq1, hq2, hQ⟩ := hrel
      by_cases hkj : k < j
      · have HQ2 : Hid (q / 8 = n / ((8 ^ (k + 1) : Nat) : Int)) := Lib.hid (by rw [← o8_next, hQ.out])
        have hkj' : (k : Int) < (j : Int) := by omega
        have hb1 : -9223372036854775808 ≤ q / 8 := by omega
        have hb2 : q / 8 ≤ 9223372036854775807 := by omega
        go_wp2
        exact ⟨⟨k + 1, by omega, by rw [Int.natCast_add]; rfl, q / 8, rfl, hb1, hb2, HQ2⟩, by simp [intOf]; omega⟩
      · obtain rfl : k = j := by omega
        have HZ := Lib.hid (o8_zero (t := k) HN.out)
        rw [← hQ.out] at HZ
        by_cases hq0 : q = 0
        · have HB : Hid (fitsO k n = true) := Lib.hid (fitsO_yes rfl HN.out (HZ.out.1 hq0))
          have hq0' : (q == 0) = true := by rw [beq_iff_eq]; exact hq0
          clear hq0
          go_wp2
          go_ret
          exact ⟨by rw [HB.out]; rfl, rfl⟩
        · have HB : Hid (fitsO k n = false) := Lib.hid (fitsO_no rfl (fun h => hq0 (HZ.out.2 h.2)))
          have hq0' : (q == 0) = false := by rw [beq_eq_false_iff_ne]; exact hq0
          clear hq0
          go_wp2
          go_ret
          exact ⟨by rw [HB.out]; rfl, rfl⟩

set_option maxHeartbeats 400000 in
set_option maxRecDepth 20000 in
theorem fits8_1 (n : Int) (w : World) (h1 : -9223372036854775808 ≤ n) (h2 : n ≤ 9223372036854775807) : Calls Tryd.prog 31 #[.int .i64 2, .int .i64 n] w (FitOP 1 n w) := by
  by_cases c1 : 0 ≤ n
  · by_cases c2 : n < 8
    · have HB := Lib.hid (fitsO_yes (j := 1) (n := n) (p := 8) (by decide) c1 c2)
      go_enter Tryd.func31, Tryd.ntmps31
      go_wp2
      go_ret
      exact ⟨by rw [HB.out]; rfl, rfl⟩
    · have HB := Lib.hid (fitsO_no (j := 1) (n := n) (p := 8) (by decide) (by omega))
      go_enter Tryd.func31, Tryd.ntmps31
      go_wp2
      go_ret
      exact ⟨by rw [HB.out]; rfl, rfl⟩
  · have HB := Lib.hid (fitsO_no (j := 1) (n := n) (p := 8) (by decide) (by omega))
    go_enter Tryd.func31, Tryd.ntmps31
    go_wp2
    go_ret
    exact ⟨by rw [HB.out]; rfl, rfl⟩

set_option maxHeartbeats 400000 in
set_option maxRecDepth 20000 in
theorem fits8_2 (n : Int) (w : World) (h1 : -9223372036854775808 ≤ n) (h2 : n ≤ 9223372036854775807) : Calls Tryd.prog 31 #[.int .i64 3, .int .i64 n] w (FitOP 2 n w) := by
  by_cases c1 : 0 ≤ n
  · by_cases c2 : n < 64
    · have HB := Lib.hid (fitsO_yes (j := 2) (n := n) (p := 64) (by decide) c1 c2)
      go_enter Tryd.func31, Tryd.ntmps31
      go_wp2
      go_ret
      exact ⟨by rw [HB.out]; rfl, rfl⟩
    · have HB := Lib.hid (fitsO_no (j := 2) (n := n) (p := 64) (by decide) (by omega))
      go_enter Tryd.func31, Tryd.ntmps31
      go_wp2
      go_ret
      exact ⟨by rw [HB.out]; rfl, rfl⟩
  · have HB := Lib.hid (fitsO_no (j := 2) (n := n) (p := 64) (by decide) (by omega))
    go_enter Tryd.func31, Tryd.ntmps31
    go_wp2
    go_ret
    exact ⟨by rw [HB.out]; rfl, rfl⟩

set_option maxHeartbeats 400000 in
set_option maxRecDepth 20000 in
theorem fits8_3 (n : Int) (w : World) (h1 : -9223372036854775808 ≤ n) (h2 : n ≤ 9223372036854775807) : Calls Tryd.prog 31 #[.int .i64 4, .int .i64 n] w (FitOP 3 n w) := by
  by_cases c1 : 0 ≤ n
  · by_cases c2 : n < 512
    · have HB := Lib.hid (fitsO_yes (j := 3) (n := n) (p := 512) (by decide) c1 c2)
      go_enter Tryd.func31, Tryd.ntmps31
      go_wp2
      go_ret
      exact ⟨by rw [HB.out]; rfl, rfl⟩
    · have HB := Lib.hid (fitsO_no (j := 3) (n := n) (p := 512) (by decide) (by omega))
      go_enter Tryd.func31, Tryd.ntmps31
      go_wp2
      go_ret
      exact ⟨by rw [HB.out]; rfl, rfl⟩
  · have HB := Lib.hid (fitsO_no (j := 3) (n := n) (p := 512) (by decide) (by omega))
    go_enter Tryd.func31, Tryd.ntmps31
    go_wp2
    go_ret
    exact ⟨by rw [HB.out]; rfl, rfl⟩

set_option maxHeartbeats 400000 in
set_option maxRecDepth 20000 in
theorem fits8_4 (n : Int) (w : World) (h1 : -9223372036854775808 ≤ n) (h2 : n ≤ 9223372036854775807) : Calls Tryd.prog 31 #[.int .i64 5, .int .i64 n] w (FitOP 4 n w) := by
  by_cases c1 : 0 ≤ n
  · by_cases c2 : n < 4096
    · have HB := Lib.hid (fitsO_yes (j := 4) (n := n) (p := 4096) (by decide) c1 c2)
      go_enter Tryd.func31, Tryd.ntmps31
      go_wp2
      go_ret
      exact ⟨by rw [HB.out]; rfl, rfl⟩
    · have HB := Lib.hid (fitsO_no (j := 4) (n := n) (p := 4096) (by decide) (by omega))
      go_enter Tryd.func31, Tryd.ntmps31
      go_wp2
      go_ret
      exact ⟨by rw [HB.out]; rfl, rfl⟩
  · have HB := Lib.hid (fitsO_no (j := 4) (n := n) (p := 4096) (by decide) (by omega))
    go_enter Tryd.func31, Tryd.ntmps31
    go_wp2
    go_ret
    exact ⟨by rw [HB.out]; rfl, rfl⟩

set_option maxHeartbeats 400000 in
set_option maxRecDepth 20000 in
theorem fits8_5 (n : Int) (w : World) (h1 : -9223372036854775808 ≤ n) (h2 : n ≤ 9223372036854775807) : Calls Tryd.prog 31 #[.int .i64 6, .int .i64 n] w (FitOP 5 n w) := by
  by_cases c1 : 0 ≤ n
  · by_cases c2 : n < 32768
    · have HB := Lib.hid (fitsO_yes (j := 5) (n := n) (p := 32768) (by decide) c1 c2)
      go_enter Tryd.func31, Tryd.ntmps31
      go_wp2
      go_ret
      exact ⟨by rw [HB.out]; rfl, rfl⟩
    · have HB := Lib.hid (fitsO_no (j := 5) (n := n) (p := 32768) (by decide) (by omega))
      go_enter Tryd.func31, Tryd.ntmps31
      go_wp2
      go_ret
      exact ⟨by rw [HB.out]; rfl, rfl⟩
  · have HB := Lib.hid (fitsO_no (j := 5) (n := n) (p := 32768) (by decide) (by omega))
    go_enter Tryd.func31, Tryd.ntmps31
    go_wp2
    go_ret
    exact ⟨by rw [HB.out]; rfl, rfl⟩

set_option maxHeartbeats 400000 in
set_option maxRecDepth 20000 in
theorem fits8_6 (n : Int) (w : World) (h1 : -9223372036854775808 ≤ n) (h2 : n ≤ 9223372036854775807) : Calls Tryd.prog 31 #[.int .i64 7, .int .i64 n] w (FitOP 6 n w) := by
  by_cases c1 : 0 ≤ n
  · by_cases c2 : n < 262144
    · have HB := Lib.hid (fitsO_yes (j := 6) (n := n) (p := 262144) (by decide) c1 c2)
      go_enter Tryd.func31, Tryd.ntmps31
      go_wp2
      go_ret
      exact ⟨by rw [HB.out]; rfl, rfl⟩
    · have HB := Lib.hid (fitsO_no (j := 6) (n := n) (p := 262144) (by decide) (by omega))
      go_enter Tryd.func31, Tryd.ntmps31
      go_wp2
      go_ret
      exact ⟨by rw [HB.out]; rfl, rfl⟩
  · have HB := Lib.hid (fitsO_no (j := 6) (n := n) (p := 262144) (by decide) (by omega))
    go_enter Tryd.func31, Tryd.ntmps31
    go_wp2
    go_ret
    exact ⟨by rw [HB.out]; rfl, rfl⟩

set_option maxHeartbeats 400000 in
set_option maxRecDepth 20000 in
theorem fits8_7 (n : Int) (w : World) (h1 : -9223372036854775808 ≤ n) (h2 : n ≤ 9223372036854775807) : Calls Tryd.prog 31 #[.int .i64 8, .int .i64 n] w (FitOP 7 n w) := by
  by_cases c1 : 0 ≤ n
  · by_cases c2 : n < 2097152
    · have HB := Lib.hid (fitsO_yes (j := 7) (n := n) (p := 2097152) (by decide) c1 c2)
      go_enter Tryd.func31, Tryd.ntmps31
      go_wp2
      go_ret
      exact ⟨by rw [HB.out]; rfl, rfl⟩
    · have HB := Lib.hid (fitsO_no (j := 7) (n := n) (p := 2097152) (by decide) (by omega))
      go_enter Tryd.func31, Tryd.ntmps31
      go_wp2
      go_ret
      exact ⟨by rw [HB.out]; rfl, rfl⟩
  · have HB := Lib.hid (fitsO_no (j := 7) (n := n) (p := 2097152) (by decide) (by omega))
    go_enter Tryd.func31, Tryd.ntmps31
    go_wp2
    go_ret
    exact ⟨by rw [HB.out]; rfl, rfl⟩

set_option maxHeartbeats 400000 in
set_option maxRecDepth 20000 in
theorem fits8_8 (n : Int) (w : World) (h1 : -9223372036854775808 ≤ n) (h2 : n ≤ 9223372036854775807) : Calls Tryd.prog 31 #[.int .i64 9, .int .i64 n] w (FitOP 8 n w) := by
  by_cases c1 : 0 ≤ n
  · by_cases c2 : n < 16777216
    · have HB := Lib.hid (fitsO_yes (j := 8) (n := n) (p := 16777216) (by decide) c1 c2)
      go_enter Tryd.func31, Tryd.ntmps31
      go_wp2
      go_ret
      exact ⟨by rw [HB.out]; rfl, rfl⟩
    · have HB := Lib.hid (fitsO_no (j := 8) (n := n) (p := 16777216) (by decide) (by omega))
      go_enter Tryd.func31, Tryd.ntmps31
      go_wp2
      go_ret
      exact ⟨by rw [HB.out]; rfl, rfl⟩
  · have HB := Lib.hid (fitsO_no (j := 8) (n := n) (p := 16777216) (by decide) (by omega))
    go_enter Tryd.func31, Tryd.ntmps31
    go_wp2
    go_ret
    exact ⟨by rw [HB.out]; rfl, rfl⟩

set_option maxHeartbeats 400000 in
set_option maxRecDepth 20000 in
theorem fits8_9 (n : Int) (w : World) (h1 : -9223372036854775808 ≤ n) (h2 : n ≤ 9223372036854775807) : Calls Tryd.prog 31 #[.int .i64 10, .int .i64 n] w (FitOP 9 n w) := by
  by_cases c1 : 0 ≤ n
  · by_cases c2 : n < 134217728
    · have HB := Lib.hid (fitsO_yes (j := 9) (n := n) (p := 134217728) (by decide) c1 c2)
      go_enter Tryd.func31, Tryd.ntmps31
      go_wp2
      go_ret
      exact ⟨by rw [HB.out]; rfl, rfl⟩
    · have HB := Lib.hid (fitsO_no (j := 9) (n := n) (p := 134217728) (by decide) (by omega))
      go_enter Tryd.func31, Tryd.ntmps31
      go_wp2
      go_ret
      exact ⟨by rw [HB.out]; rfl, rfl⟩
  · have HB := Lib.hid (fitsO_no (j := 9) (n := n) (p := 134217728) (by decide) (by omega))
    go_enter Tryd.func31, Tryd.ntmps31
    go_wp2
    go_ret
    exact ⟨by rw [HB.out]; rfl, rfl⟩

set_option maxHeartbeats 400000 in
set_option maxRecDepth 20000 in
theorem fits8_10 (n : Int) (w : World) (h1 : -9223372036854775808 ≤ n) (h2 : n ≤ 9223372036854775807) : Calls Tryd.prog 31 #[.int .i64 11, .int .i64 n] w (FitOP 10 n w) := by
  by_cases c1 : 0 ≤ n
  · by_cases c2 : n < 1073741824
    · have HB := Lib.hid (fitsO_yes (j := 10) (n := n) (p := 1073741824) (by decide) c1 c2)
      go_enter Tryd.func31, Tryd.ntmps31
      go_wp2
      go_ret
      exact ⟨by rw [HB.out]; rfl, rfl⟩
    · have HB := Lib.hid (fitsO_no (j := 10) (n := n) (p := 1073741824) (by decide) (by omega))
      go_enter Tryd.func31, Tryd.ntmps31
      go_wp2
      go_ret
      exact ⟨by rw [HB.out]; rfl, rfl⟩
  · have HB := Lib.hid (fitsO_no (j := 10) (n := n) (p := 1073741824) (by decide) (by omega))
    go_enter Tryd.func31, Tryd.ntmps31
    go_wp2
    go_ret
    exact ⟨by rw [HB.out]; rfl, rfl⟩

set_option maxHeartbeats 400000 in
set_option maxRecDepth 20000 in
theorem fits8_11 (n : Int) (w : World) (h1 : -9223372036854775808 ≤ n) (h2 : n ≤ 9223372036854775807) : Calls Tryd.prog 31 #[.int .i64 12, .int .i64 n] w (FitOP 11 n w) := by
  by_cases c1 : 0 ≤ n
  · by_cases c2 : n < 8589934592
    · have HB := Lib.hid (fitsO_yes (j := 11) (n := n) (p := 8589934592) (by decide) c1 c2)
      go_enter Tryd.func31, Tryd.ntmps31
      go_wp2
      go_ret
      exact ⟨by rw [HB.out]; rfl, rfl⟩
    · have HB := Lib.hid (fitsO_no (j := 11) (n := n) (p := 8589934592) (by decide) (by omega))
      go_enter Tryd.func31, Tryd.ntmps31
      go_wp2
      go_ret
      exact ⟨by rw [HB.out]; rfl, rfl⟩
  · have HB := Lib.hid (fitsO_no (j := 11) (n := n) (p := 8589934592) (by decide) (by omega))
    go_enter Tryd.func31, Tryd.ntmps31
    go_wp2
    go_ret
    exact ⟨by rw [HB.out]; rfl, rfl⟩

set_option maxHeartbeats 400000 in
set_option maxRecDepth 20000 in
theorem fits8_12 (n : Int) (w : World) (h1 : -9223372036854775808 ≤ n) (h2 : n ≤ 9223372036854775807) : Calls Tryd.prog 31 #[.int .i64 13, .int .i64 n] w (FitOP 12 n w) := by
  by_cases c1 : 0 ≤ n
  · by_cases c2 : n < 68719476736
    · have HB := Lib.hid (fitsO_yes (j := 12) (n := n) (p := 68719476736) (by decide) c1 c2)
      go_enter Tryd.func31, Tryd.ntmps31
      go_wp2
      go_ret
      exact ⟨by rw [HB.out]; rfl, rfl⟩
    · have HB := Lib.hid (fitsO_no (j := 12) (n := n) (p := 68719476736) (by decide) (by omega))
      go_enter Tryd.func31, Tryd.ntmps31
      go_wp2
      go_ret
      exact ⟨by rw [HB.out]; rfl, rfl⟩
  · have HB := Lib.hid (fitsO_no (j := 12) (n := n) (p := 68719476736) (by decide) (by omega))
    go_enter Tryd.func31, Tryd.ntmps31
    go_wp2
    go_ret
    exact ⟨by rw [HB.out]; rfl, rfl⟩

set_option maxHeartbeats 400000 in
set_option maxRecDepth 20000 in
theorem fits8_13 (n : Int) (w : World) (h1 : -9223372036854775808 ≤ n) (h2 : n ≤ 9223372036854775807) : Calls Tryd.prog 31 #[.int .i64 14, .int .i64 n] w (FitOP 13 n w) := by
  by_cases c1 : 0 ≤ n
  · by_cases c2 : n < 549755813888
    · have HB := Lib.hid (fitsO_yes (j := 13) (n := n) (p := 549755813888) (by decide) c1 c2)
      go_enter Tryd.func31, Tryd.ntmps31
      go_wp2
      go_ret
      exact ⟨by rw [HB.out]; rfl, rfl⟩
    · have HB := Lib.hid (fitsO_no (j := 13) (n := n) (p := 549755813888) (by decide) (by omega))
      go_enter Tryd.func31, Tryd.ntmps31
      go_wp2
      go_ret
      exact ⟨by rw [HB.out]; rfl, rfl⟩
  · have HB := Lib.hid (fitsO_no (j := 13) (n := n) (p := 549755813888) (by decide) (by omega))
    go_enter Tryd.func31, Tryd.ntmps31
    go_wp2
    go_ret
    exact ⟨by rw [HB.out]; rfl, rfl⟩

set_option maxHeartbeats 400000 in
set_option maxRecDepth 20000 in
theorem fits8_14 (n : Int) (w : World) (h1 : -9223372036854775808 ≤ n) (h2 : n ≤ 9223372036854775807) : Calls Tryd.prog 31 #[.int .i64 15, .int .i64 n] w (FitOP 14 n w) := by
  by_cases c1 : 0 ≤ n
  · by_cases c2 : n < 4398046511104
    · have HB := Lib.hid (fitsO_yes (j := 14) (n := n) (p := 4398046511104) (by decide) c1 c2)
      go_enter Tryd.func31, Tryd.ntmps31
      go_wp2
      go_ret
      exact ⟨by rw [HB.out]; rfl, rfl⟩
    · have HB := Lib.hid (fitsO_no (j := 14) (n := n) (p := 4398046511104) (by decide) (by omega))
      go_enter Tryd.func31, Tryd.ntmps31
      go_wp2
      go_ret
      exact ⟨by rw [HB.out]; rfl, rfl⟩
  · have HB := Lib.hid (fitsO_no (j := 14) (n := n) (p := 4398046511104) (by decide) (by omega))
    go_enter Tryd.func31, Tryd.ntmps31
    go_wp2
    go_ret
    exact ⟨by rw [HB.out]; rfl, rfl⟩

set_option maxHeartbeats 400000 in
set_option maxRecDepth 20000 in
theorem fits8_15 (n : Int) (w : World) (h1 : -9223372036854775808 ≤ n) (h2 : n ≤ 9223372036854775807) : Calls Tryd.prog 31 #[.int .i64 16, .int .i64 n] w (FitOP 15 n w) := by
  by_cases c1 : 0 ≤ n
  · by_cases c2 : n < 35184372088832
    · have HB := Lib.hid (fitsO_yes (j := 15) (n := n) (p := 35184372088832) (by decide) c1 c2)
      go_enter Tryd.func31, Tryd.ntmps31
      go_wp2
      go_ret
      exact ⟨by rw [HB.out]; rfl, rfl⟩
    · have HB := Lib.hid (fitsO_no (j := 15) (n := n) (p := 35184372088832) (by decide) (by omega))
      go_enter Tryd.func31, Tryd.ntmps31
      go_wp2
      go_ret
      exact ⟨by rw [HB.out]; rfl, rfl⟩
  · have HB := Lib.hid (fitsO_no (j := 15) (n := n) (p := 35184372088832) (by decide) (by omega))
    go_enter Tryd.func31, Tryd.ntmps31
    go_wp2
    go_ret
    exact ⟨by rw [HB.out]; rfl, rfl⟩

set_option maxHeartbeats 400000 in
set_option maxRecDepth 20000 in
theorem fits8_16 (n : Int) (w : World) (h1 : -9223372036854775808 ≤ n) (h2 : n ≤ 9223372036854775807) : Calls Tryd.prog 31 #[.int .i64 17, .int .i64 n] w (FitOP 16 n w) := by
  by_cases c1 : 0 ≤ n
  · by_cases c2 : n < 281474976710656
    · have HB := Lib.hid (fitsO_yes (j := 16) (n := n) (p := 281474976710656) (by decide) c1 c2)
      go_enter Tryd.func31, Tryd.ntmps31
      go_wp2
      go_ret
      exact ⟨by rw [HB.out]; rfl, rfl⟩
    · have HB := Lib.hid (fitsO_no (j := 16) (n := n) (p := 281474976710656) (by decide) (by omega))
      go_enter Tryd.func31, Tryd.ntmps31
      go_wp2
      go_ret
      exact ⟨by rw [HB.out]; rfl, rfl⟩
  · have HB := Lib.hid (fitsO_no (j := 16) (n := n) (p := 281474976710656) (by decide) (by omega))
    go_enter Tryd.func31, Tryd.ntmps31
    go_wp2
    go_ret
    exact ⟨by rw [HB.out]; rfl, rfl⟩

set_option maxHeartbeats 400000 in
set_option maxRecDepth 20000 in
theorem fits8_17 (n : Int) (w : World) (h1 : -9223372036854775808 ≤ n) (h2 : n ≤ 9223372036854775807) : Calls Tryd.prog 31 #[.int .i64 18, .int .i64 n] w (FitOP 17 n w) := by
  by_cases c1 : 0 ≤ n
  · by_cases c2 : n < 2251799813685248
    · have HB := Lib.hid (fitsO_yes (j := 17) (n := n) (p := 2251799813685248) (by decide) c1 c2)
      go_enter Tryd.func31, Tryd.ntmps31
      go_wp2
      go_ret
      exact ⟨by rw [HB.out]; rfl, rfl⟩
    · have HB := Lib.hid (fitsO_no (j := 17) (n := n) (p := 2251799813685248) (by decide) (by omega))
      go_enter Tryd.func31, Tryd.ntmps31
      go_wp2
      go_ret
      exact ⟨by rw [HB.out]; rfl, rfl⟩
  · have HB := Lib.hid (fitsO_no (j := 17) (n := n) (p := 2251799813685248) (by decide) (by omega))
    go_enter Tryd.func31, Tryd.ntmps31
    go_wp2
    go_ret
    exact ⟨by rw [HB.out]; rfl, rfl⟩

set_option maxHeartbeats 400000 in
set_option maxRecDepth 20000 in
theorem fits8_18 (n : Int) (w : World) (h1 : -9223372036854775808 ≤ n) (h2 : n ≤ 9223372036854775807) : Calls Tryd.prog 31 #[.int .i64 19, .int .i64 n] w (FitOP 18 n w) := by
  by_cases c1 : 0 ≤ n
  · by_cases c2 : n < 18014398509481984
    · have HB := Lib.hid (fitsO_yes (j := 18) (n := n) (p := 18014398509481984) (by decide) c1 c2)
      go_enter Tryd.func31, Tryd.ntmps31
      go_wp2
      go_ret
      exact ⟨by rw [HB.out]; rfl, rfl⟩
    · have HB := Lib.hid (fitsO_no (j := 18) (n := n) (p := 18014398509481984) (by decide) (by omega))
      go_enter Tryd.func31, Tryd.ntmps31
      go_wp2
      go_ret
      exact ⟨by rw [HB.out]; rfl, rfl⟩
  · have HB := Lib.hid (fitsO_no (j := 18) (n := n) (p := 18014398509481984) (by decide) (by omega))
    go_enter Tryd.func31, Tryd.ntmps31
    go_wp2
    go_ret
    exact ⟨by rw [HB.out]; rfl, rfl⟩

set_option maxHeartbeats 400000 in
set_option maxRecDepth 20000 in
theorem fits8_19 (n : Int) (w : World) (h1 : -9223372036854775808 ≤ n) (h2 : n ≤ 9223372036854775807) : Calls Tryd.prog 31 #[.int .i64 20, .int .i64 n] w (FitOP 19 n w) := by
  by_cases c1 : 0 ≤ n
  · by_cases c2 : n < 144115188075855872
    · have HB := Lib.hid (fitsO_yes (j := 19) (n := n) (p := 144115188075855872) (by decide) c1 c2)
      go_enter Tryd.func31, Tryd.ntmps31
      go_wp2
      go_ret
      exact ⟨by rw [HB.out]; rfl, rfl⟩
    · have HB := Lib.hid (fitsO_no (j := 19) (n := n) (p := 144115188075855872) (by decide) (by omega))
      go_enter Tryd.func31, Tryd.ntmps31
      go_wp2
      go_ret
      exact ⟨by rw [HB.out]; rfl, rfl⟩
  · have HB := Lib.hid (fitsO_no (j := 19) (n := n) (p := 144115188075855872) (by decide) (by omega))
    go_enter Tryd.func31, Tryd.ntmps31
    go_wp2
    go_ret
    exact ⟨by rw [HB.out]; rfl, rfl⟩

set_option maxHeartbeats 400000 in
set_option maxRecDepth 20000 in
theorem fits8_20 (n : Int) (w : World) (h1 : -9223372036854775808 ≤ n) (h2 : n ≤ 9223372036854775807) : Calls Tryd.prog 31 #[.int .i64 21, .int .i64 n] w (FitOP 20 n w) := by
  by_cases c1 : 0 ≤ n
  · by_cases c2 : n < 1152921504606846976
    · have HB := Lib.hid (fitsO_yes (j := 20) (n := n) (p := 1152921504606846976) (by decide) c1 c2)
      go_enter Tryd.func31, Tryd.ntmps31
      go_wp2
      go_ret
      exact ⟨by rw [HB.out]; rfl, rfl⟩
    · have HB := Lib.hid (fitsO_no (j := 20) (n := n) (p := 1152921504606846976) (by decide) (by omega))
      go_enter Tryd.func31, Tryd.ntmps31
      go_wp2
      go_ret
      exact ⟨by rw [HB.out]; rfl, rfl⟩
  · have HB := Lib.hid (fitsO_no (j := 20) (n := n) (p := 1152921504606846976) (by decide) (by omega))
    go_enter Tryd.func31, Tryd.ntmps31
    go_wp2
    go_ret
    exact ⟨by rw [HB.out]; rfl, rfl⟩

set_option maxHeartbeats 400000 in
set_option maxRecDepth 20000 in
theorem fits8 (j : Nat) (z n : Int) (w : World) (hz : z = (j : Int) + 1) (hj1 : 1 ≤ j) (hj : j ≤ 21) (h1 : -9223372036854775808 ≤ n) (h2 : n ≤ 9223372036854775807) : Calls Tryd.prog 31 #[.int .i64 z, .int .i64 n] w (FitOP j n w) := by
  by_cases hb : j = 21
  · subst hb
    obtain rfl : z = 22 := by omega
    by_cases c1 : 0 ≤ n
    · have HB := Lib.hid (fitsO_yes (j := 21) (n := n) (p := 9223372036854775808) (by decide) c1 (by omega))
      go_enter Tryd.func31, Tryd.ntmps31
      go_wp2
      go_ret
      exact ⟨by rw [HB.out]; rfl, rfl⟩
    · have HB := Lib.hid (fitsO_no (j := 21) (n := n) (p := 9223372036854775808) (by decide) (by omega))
      go_enter Tryd.func31, Tryd.ntmps31
      go_wp2
      go_ret
      exact ⟨by rw [HB.out]; rfl, rfl⟩
  · have hc : j = 1 ∨ j = 2 ∨ j = 3 ∨ j = 4 ∨ j = 5 ∨ j = 6 ∨ j = 7 ∨ j = 8 ∨ j = 9 ∨ j = 10 ∨ j = 11 ∨ j = 12 ∨ j = 13 ∨ j = 14 ∨ j = 15 ∨ j = 16 ∨ j = 17 ∨ j = 18 ∨ j = 19 ∨ j = 20 := by omega
    rcases hc with rfl | rfl | rfl | rfl | rfl | rfl | rfl | rfl | rfl | rfl | rfl | rfl | rfl | rfl | rfl | rfl | rfl | rfl | rfl | rfl
    · obtain rfl : z = 2 := by omega
      exact fits8_1 n w h1 h2
    · obtain rfl : z = 3 := by omega
      exact fits8_2 n w h1 h2
    · obtain rfl : z = 4 := by omega
      exact fits8_3 n w h1 h2
    · obtain rfl : z = 5 := by omega
      exact fits8_4 n w h1 h2
    · obtain rfl : z = 6 := by omega
      exact fits8_5 n w h1 h2
    · obtain rfl : z = 7 := by omega
      exact fits8_6 n w h1 h2
    · obtain rfl : z = 8 := by omega
      exact fits8_7 n w h1 h2
    · obtain rfl : z = 9 := by omega
      exact fits8_8 n w h1 h2
    · obtain rfl : z = 10 := by omega
      exact fits8_9 n w h1 h2
    · obtain rfl : z = 11 := by omega
      exact fits8_10 n w h1 h2
    · obtain rfl : z = 12 := by omega
      exact fits8_11 n w h1 h2
    · obtain rfl : z = 13 := by omega
      exact fits8_12 n w h1 h2
    · obtain rfl : z = 14 := by omega
      exact fits8_13 n w h1 h2
    · obtain rfl : z = 15 := by omega
      exact fits8_14 n w h1 h2
    · obtain rfl : z = 16 := by omega
      exact fits8_15 n w h1 h2
    · obtain rfl : z = 17 := by omega
      exact fits8_16 n w h1 h2
    · obtain rfl : z = 18 := by omega
      exact fits8_17 n w h1 h2
    · obtain rfl : z = 19 := by omega
      exact fits8_18 n w h1 h2
    · obtain rfl : z = 20 := by omega
      exact fits8_19 n w h1 h2
    · obtain rfl : z = 21 := by omega
      exact fits8_20 n w h1 h2

set_option maxHeartbeats 400000 in
set_option maxRecDepth 20000 in
theorem implFitsO (j : Nat) (z n : Int) (w : World) (hz : z = (j : Int) + 1) (hj1 : 1 ≤ j) (hj : j ≤ 21) (h1 : -9223372036854775808 ≤ n) (h2 : n ≤ 9223372036854775807) : Calls Tryd.prog 14 #[.int .i64 z, .int .i64 n] w (FitOP j n w) := by
  have HF := fun w => Lib.hid (fits8 j z n w hz hj1 hj h1 h2)
  clear hz
  go_enter Tryd.func14, Tryd.ntmps14
  go_wp2_with (first
    | (go_at_call 31; refine (HF _).out.mono ?_; rintro e w' ⟨rfl, rfl⟩)
    | (go_at_call 24; go_in))
  go_ret
  exact ⟨rfl, rfl⟩
end Go.Proofs.YtagjbndcbcepcaaDoor
