/- Which numbers fit a field in base 256. -/
import Derived.Test.YtagjbndcbcepcaaDoorBinP
import Derived.Test.YtagjbndcbcepcaaDoorBelow
import Derived.Test.YtagjbndcbcepcaaDoorO
namespace Go.Proofs.YtagjbndcbcepcaaDoor
open Go.RowKit Go.PlainAid
set_option linter.unusedVariables false

/-- Whether so many bytes have room for a number and its sign. -/
def fitsB (j : Nat) (n : Int) : Bool := decide (8 ≤ j) || (decide (-((256 ^ j : Nat) : Int) ≤ n) && decide (n < ((256 ^ j : Nat) : Int)))
def FitP (j : Nat) (n : Int) (w : World) (e : Ending) (w' : World) : Prop := e = .returned (.bool (fitsB j n)) ∧ w = w'
theorem fitsB_big {j : Nat} (n : Int) (h : 8 ≤ j) : fitsB j n = true := by simp [fitsB, h]
theorem fitsB_yes {j : Nat} {n : Int} {p : Int} (hp : ((256 ^ j : Nat) : Int) = p) (h1 : -p ≤ n) (h2 : n < p) : fitsB j n = true := by simp [fitsB, hp, h1, h2]
theorem fitsB_no {j : Nat} {n : Int} {p : Int} (hp : ((256 ^ j : Nat) : Int) = p) (hj : j < 8) (h : ¬ (-p ≤ n ∧ n < p)) : fitsB j n = false := by
  unfold fitsB
  rw [hp, decide_eq_false (by omega : ¬ 8 ≤ j)]
  simp only [Bool.false_or, Bool.and_eq_false_iff, decide_eq_false_iff_not]
  omega

set_option maxHeartbeats 400000 in
set_option maxRecDepth 20000 in
theorem specFits0 (n : Int) (w : World) (h1 : -9223372036854775808 ≤ n) (h2 : n ≤ 9223372036854775807) : Calls Tryd.prog 17 #[.int .i64 2, .int .i64 n] w (FitP 1 n w) := by
  by_cases c1 : n / 256 = 0
  · have HB := Lib.hid (fitsB_yes (j := 1) (n := n) (p := 256) (by decide) (by omega) (by omega))
    have b1 : (n / 256 == 0) = true := by rw [beq_iff_eq]; exact c1
    go_enter Tryd.func17, Tryd.ntmps17
    go_wp2
    go_ret
    exact ⟨by rw [HB.out]; rfl, rfl⟩
  · have b1 : (n / 256 == 0) = false := by rw [beq_eq_false_iff_ne]; exact c1
    by_cases c2 : n / 256 = -1
    · have HB := Lib.hid (fitsB_yes (j := 1) (n := n) (p := 256) (by decide) (by omega) (by omega))
      have b2 : (n / 256 == -1) = true := by rw [beq_iff_eq]; exact c2
      clear c1 c2
      go_enter Tryd.func17, Tryd.ntmps17
      go_wp2
      go_ret
      exact ⟨by rw [HB.out]; rfl, rfl⟩
    · have HB := Lib.hid (fitsB_no (j := 1) (n := n) (p := 256) (by decide) (by omega) (by omega))
      have b2 : (n / 256 == -1) = false := by rw [beq_eq_false_iff_ne]; exact c2
      clear c1 c2
      go_enter Tryd.func17, Tryd.ntmps17
      go_wp2
      go_ret
      exact ⟨by rw [HB.out]; rfl, rfl⟩
set_option maxHeartbeats 400000 in
set_option maxRecDepth 20000 in
theorem fits256_0 (n : Int) (w : World) (h1 : -9223372036854775808 ≤ n) (h2 : n ≤ 9223372036854775807) : Calls Tryd.prog 33 #[.int .i64 2, .int .i64 n] w (FitP 1 n w) := by
  by_cases c1 : -256 ≤ n
  · by_cases c2 : n < 256
    · have HB := Lib.hid (fitsB_yes (j := 1) (n := n) (p := 256) (by decide) c1 c2)
      go_enter Tryd.func33, Tryd.ntmps33
      go_wp2
      go_ret
      exact ⟨by rw [HB.out]; rfl, rfl⟩
    · have HB := Lib.hid (fitsB_no (j := 1) (n := n) (p := 256) (by decide) (by omega) (by omega))
      go_enter Tryd.func33, Tryd.ntmps33
      go_wp2
      go_ret
      exact ⟨by rw [HB.out]; rfl, rfl⟩
  · have HB := Lib.hid (fitsB_no (j := 1) (n := n) (p := 256) (by decide) (by omega) (by omega))
    go_enter Tryd.func33, Tryd.ntmps33
    go_wp2
    go_ret
    exact ⟨by rw [HB.out]; rfl, rfl⟩

set_option maxHeartbeats 400000 in
set_option maxRecDepth 20000 in
theorem specFits1 (n : Int) (w : World) (h1 : -9223372036854775808 ≤ n) (h2 : n ≤ 9223372036854775807) : Calls Tryd.prog 17 #[.int .i64 3, .int .i64 n] w (FitP 2 n w) := by
  by_cases c1 : n / 65536 = 0
  · have HB := Lib.hid (fitsB_yes (j := 2) (n := n) (p := 65536) (by decide) (by omega) (by omega))
    have b1 : (n / 65536 == 0) = true := by rw [beq_iff_eq]; exact c1
    go_enter Tryd.func17, Tryd.ntmps17
    go_wp2
    go_ret
    exact ⟨by rw [HB.out]; rfl, rfl⟩
  · have b1 : (n / 65536 == 0) = false := by rw [beq_eq_false_iff_ne]; exact c1
    by_cases c2 : n / 65536 = -1
    · have HB := Lib.hid (fitsB_yes (j := 2) (n := n) (p := 65536) (by decide) (by omega) (by omega))
      have b2 : (n / 65536 == -1) = true := by rw [beq_iff_eq]; exact c2
      clear c1 c2
      go_enter Tryd.func17, Tryd.ntmps17
      go_wp2
      go_ret
      exact ⟨by rw [HB.out]; rfl, rfl⟩
    · have HB := Lib.hid (fitsB_no (j := 2) (n := n) (p := 65536) (by decide) (by omega) (by omega))
      have b2 : (n / 65536 == -1) = false := by rw [beq_eq_false_iff_ne]; exact c2
      clear c1 c2
      go_enter Tryd.func17, Tryd.ntmps17
      go_wp2
      go_ret
      exact ⟨by rw [HB.out]; rfl, rfl⟩
set_option maxHeartbeats 400000 in
set_option maxRecDepth 20000 in
theorem fits256_1 (n : Int) (w : World) (h1 : -9223372036854775808 ≤ n) (h2 : n ≤ 9223372036854775807) : Calls Tryd.prog 33 #[.int .i64 3, .int .i64 n] w (FitP 2 n w) := by
  by_cases c1 : -65536 ≤ n
  · by_cases c2 : n < 65536
    · have HB := Lib.hid (fitsB_yes (j := 2) (n := n) (p := 65536) (by decide) c1 c2)
      go_enter Tryd.func33, Tryd.ntmps33
      go_wp2
      go_ret
      exact ⟨by rw [HB.out]; rfl, rfl⟩
    · have HB := Lib.hid (fitsB_no (j := 2) (n := n) (p := 65536) (by decide) (by omega) (by omega))
      go_enter Tryd.func33, Tryd.ntmps33
      go_wp2
      go_ret
      exact ⟨by rw [HB.out]; rfl, rfl⟩
  · have HB := Lib.hid (fitsB_no (j := 2) (n := n) (p := 65536) (by decide) (by omega) (by omega))
    go_enter Tryd.func33, Tryd.ntmps33
    go_wp2
    go_ret
    exact ⟨by rw [HB.out]; rfl, rfl⟩

set_option maxHeartbeats 400000 in
set_option maxRecDepth 20000 in
theorem specFits2 (n : Int) (w : World) (h1 : -9223372036854775808 ≤ n) (h2 : n ≤ 9223372036854775807) : Calls Tryd.prog 17 #[.int .i64 4, .int .i64 n] w (FitP 3 n w) := by
  by_cases c1 : n / 16777216 = 0
  · have HB := Lib.hid (fitsB_yes (j := 3) (n := n) (p := 16777216) (by decide) (by omega) (by omega))
    have b1 : (n / 16777216 == 0) = true := by rw [beq_iff_eq]; exact c1
    go_enter Tryd.func17, Tryd.ntmps17
    go_wp2
    go_ret
    exact ⟨by rw [HB.out]; rfl, rfl⟩
  · have b1 : (n / 16777216 == 0) = false := by rw [beq_eq_false_iff_ne]; exact c1
    by_cases c2 : n / 16777216 = -1
    · have HB := Lib.hid (fitsB_yes (j := 3) (n := n) (p := 16777216) (by decide) (by omega) (by omega))
      have b2 : (n / 16777216 == -1) = true := by rw [beq_iff_eq]; exact c2
      clear c1 c2
      go_enter Tryd.func17, Tryd.ntmps17
      go_wp2
      go_ret
      exact ⟨by rw [HB.out]; rfl, rfl⟩
    · have HB := Lib.hid (fitsB_no (j := 3) (n := n) (p := 16777216) (by decide) (by omega) (by omega))
      have b2 : (n / 16777216 == -1) = false := by rw [beq_eq_false_iff_ne]; exact c2
      clear c1 c2
      go_enter Tryd.func17, Tryd.ntmps17
      go_wp2
      go_ret
      exact ⟨by rw [HB.out]; rfl, rfl⟩
set_option maxHeartbeats 400000 in
set_option maxRecDepth 20000 in
theorem fits256_2 (n : Int) (w : World) (h1 : -9223372036854775808 ≤ n) (h2 : n ≤ 9223372036854775807) : Calls Tryd.prog 33 #[.int .i64 4, .int .i64 n] w (FitP 3 n w) := by
  by_cases c1 : -16777216 ≤ n
  · by_cases c2 : n < 16777216
    · have HB := Lib.hid (fitsB_yes (j := 3) (n := n) (p := 16777216) (by decide) c1 c2)
      go_enter Tryd.func33, Tryd.ntmps33
      go_wp2
      go_ret
      exact ⟨by rw [HB.out]; rfl, rfl⟩
    · have HB := Lib.hid (fitsB_no (j := 3) (n := n) (p := 16777216) (by decide) (by omega) (by omega))
      go_enter Tryd.func33, Tryd.ntmps33
      go_wp2
      go_ret
      exact ⟨by rw [HB.out]; rfl, rfl⟩
  · have HB := Lib.hid (fitsB_no (j := 3) (n := n) (p := 16777216) (by decide) (by omega) (by omega))
    go_enter Tryd.func33, Tryd.ntmps33
    go_wp2
    go_ret
    exact ⟨by rw [HB.out]; rfl, rfl⟩

set_option maxHeartbeats 400000 in
set_option maxRecDepth 20000 in
theorem specFits3 (n : Int) (w : World) (h1 : -9223372036854775808 ≤ n) (h2 : n ≤ 9223372036854775807) : Calls Tryd.prog 17 #[.int .i64 5, .int .i64 n] w (FitP 4 n w) := by
  by_cases c1 : n / 4294967296 = 0
  · have HB := Lib.hid (fitsB_yes (j := 4) (n := n) (p := 4294967296) (by decide) (by omega) (by omega))
    have b1 : (n / 4294967296 == 0) = true := by rw [beq_iff_eq]; exact c1
    go_enter Tryd.func17, Tryd.ntmps17
    go_wp2
    go_ret
    exact ⟨by rw [HB.out]; rfl, rfl⟩
  · have b1 : (n / 4294967296 == 0) = false := by rw [beq_eq_false_iff_ne]; exact c1
    by_cases c2 : n / 4294967296 = -1
    · have HB := Lib.hid (fitsB_yes (j := 4) (n := n) (p := 4294967296) (by decide) (by omega) (by omega))
      have b2 : (n / 4294967296 == -1) = true := by rw [beq_iff_eq]; exact c2
      clear c1 c2
      go_enter Tryd.func17, Tryd.ntmps17
      go_wp2
      go_ret
      exact ⟨by rw [HB.out]; rfl, rfl⟩
    · have HB := Lib.hid (fitsB_no (j := 4) (n := n) (p := 4294967296) (by decide) (by omega) (by omega))
      have b2 : (n / 4294967296 == -1) = false := by rw [beq_eq_false_iff_ne]; exact c2
      clear c1 c2
      go_enter Tryd.func17, Tryd.ntmps17
      go_wp2
      go_ret
      exact ⟨by rw [HB.out]; rfl, rfl⟩
set_option maxHeartbeats 400000 in
set_option maxRecDepth 20000 in
theorem fits256_3 (n : Int) (w : World) (h1 : -9223372036854775808 ≤ n) (h2 : n ≤ 9223372036854775807) : Calls Tryd.prog 33 #[.int .i64 5, .int .i64 n] w (FitP 4 n w) := by
  by_cases c1 : -4294967296 ≤ n
  · by_cases c2 : n < 4294967296
    · have HB := Lib.hid (fitsB_yes (j := 4) (n := n) (p := 4294967296) (by decide) c1 c2)
      go_enter Tryd.func33, Tryd.ntmps33
      go_wp2
      go_ret
      exact ⟨by rw [HB.out]; rfl, rfl⟩
    · have HB := Lib.hid (fitsB_no (j := 4) (n := n) (p := 4294967296) (by decide) (by omega) (by omega))
      go_enter Tryd.func33, Tryd.ntmps33
      go_wp2
      go_ret
      exact ⟨by rw [HB.out]; rfl, rfl⟩
  · have HB := Lib.hid (fitsB_no (j := 4) (n := n) (p := 4294967296) (by decide) (by omega) (by omega))
    go_enter Tryd.func33, Tryd.ntmps33
    go_wp2
    go_ret
    exact ⟨by rw [HB.out]; rfl, rfl⟩

set_option maxHeartbeats 400000 in
set_option maxRecDepth 20000 in
theorem specFits4 (n : Int) (w : World) (h1 : -9223372036854775808 ≤ n) (h2 : n ≤ 9223372036854775807) : Calls Tryd.prog 17 #[.int .i64 6, .int .i64 n] w (FitP 5 n w) := by
  by_cases c1 : n / 1099511627776 = 0
  · have HB := Lib.hid (fitsB_yes (j := 5) (n := n) (p := 1099511627776) (by decide) (by omega) (by omega))
    have b1 : (n / 1099511627776 == 0) = true := by rw [beq_iff_eq]; exact c1
    go_enter Tryd.func17, Tryd.ntmps17
    go_wp2
    go_ret
    exact ⟨by rw [HB.out]; rfl, rfl⟩
  · have b1 : (n / 1099511627776 == 0) = false := by rw [beq_eq_false_iff_ne]; exact c1
    by_cases c2 : n / 1099511627776 = -1
    · have HB := Lib.hid (fitsB_yes (j := 5) (n := n) (p := 1099511627776) (by decide) (by omega) (by omega))
      have b2 : (n / 1099511627776 == -1) = true := by rw [beq_iff_eq]; exact c2
      clear c1 c2
      go_enter Tryd.func17, Tryd.ntmps17
      go_wp2
      go_ret
      exact ⟨by rw [HB.out]; rfl, rfl⟩
    · have HB := Lib.hid (fitsB_no (j := 5) (n := n) (p := 1099511627776) (by decide) (by omega) (by omega))
      have b2 : (n / 1099511627776 == -1) = false := by rw [beq_eq_false_iff_ne]; exact c2
      clear c1 c2
      go_enter Tryd.func17, Tryd.ntmps17
      go_wp2
      go_ret
      exact ⟨by rw [HB.out]; rfl, rfl⟩
set_option maxHeartbeats 400000 in
set_option maxRecDepth 20000 in
theorem fits256_4 (n : Int) (w : World) (h1 : -9223372036854775808 ≤ n) (h2 : n ≤ 9223372036854775807) : Calls Tryd.prog 33 #[.int .i64 6, .int .i64 n] w (FitP 5 n w) := by
  by_cases c1 : -1099511627776 ≤ n
  · by_cases c2 : n < 1099511627776
    · have HB := Lib.hid (fitsB_yes (j := 5) (n := n) (p := 1099511627776) (by decide) c1 c2)
      go_enter Tryd.func33, Tryd.ntmps33
      go_wp2
      go_ret
      exact ⟨by rw [HB.out]; rfl, rfl⟩
    · have HB := Lib.hid (fitsB_no (j := 5) (n := n) (p := 1099511627776) (by decide) (by omega) (by omega))
      go_enter Tryd.func33, Tryd.ntmps33
      go_wp2
      go_ret
      exact ⟨by rw [HB.out]; rfl, rfl⟩
  · have HB := Lib.hid (fitsB_no (j := 5) (n := n) (p := 1099511627776) (by decide) (by omega) (by omega))
    go_enter Tryd.func33, Tryd.ntmps33
    go_wp2
    go_ret
    exact ⟨by rw [HB.out]; rfl, rfl⟩

set_option maxHeartbeats 400000 in
set_option maxRecDepth 20000 in
theorem specFits5 (n : Int) (w : World) (h1 : -9223372036854775808 ≤ n) (h2 : n ≤ 9223372036854775807) : Calls Tryd.prog 17 #[.int .i64 7, .int .i64 n] w (FitP 6 n w) := by
  by_cases c1 : n / 281474976710656 = 0
  · have HB := Lib.hid (fitsB_yes (j := 6) (n := n) (p := 281474976710656) (by decide) (by omega) (by omega))
    have b1 : (n / 281474976710656 == 0) = true := by rw [beq_iff_eq]; exact c1
    go_enter Tryd.func17, Tryd.ntmps17
    go_wp2
    go_ret
    exact ⟨by rw [HB.out]; rfl, rfl⟩
  · have b1 : (n / 281474976710656 == 0) = false := by rw [beq_eq_false_iff_ne]; exact c1
    by_cases c2 : n / 281474976710656 = -1
    · have HB := Lib.hid (fitsB_yes (j := 6) (n := n) (p := 281474976710656) (by decide) (by omega) (by omega))
      have b2 : (n / 281474976710656 == -1) = true := by rw [beq_iff_eq]; exact c2
      clear c1 c2
      go_enter Tryd.func17, Tryd.ntmps17
      go_wp2
      go_ret
      exact ⟨by rw [HB.out]; rfl, rfl⟩
    · have HB := Lib.hid (fitsB_no (j := 6) (n := n) (p := 281474976710656) (by decide) (by omega) (by omega))
      have b2 : (n / 281474976710656 == -1) = false := by rw [beq_eq_false_iff_ne]; exact c2
      clear c1 c2
      go_enter Tryd.func17, Tryd.ntmps17
      go_wp2
      go_ret
      exact ⟨by rw [HB.out]; rfl, rfl⟩
set_option maxHeartbeats 400000 in
set_option maxRecDepth 20000 in
theorem fits256_5 (n : Int) (w : World) (h1 : -9223372036854775808 ≤ n) (h2 : n ≤ 9223372036854775807) : Calls Tryd.prog 33 #[.int .i64 7, .int .i64 n] w (FitP 6 n w) := by
  by_cases c1 : -281474976710656 ≤ n
  · by_cases c2 : n < 281474976710656
    · have HB := Lib.hid (fitsB_yes (j := 6) (n := n) (p := 281474976710656) (by decide) c1 c2)
      go_enter Tryd.func33, Tryd.ntmps33
      go_wp2
      go_ret
      exact ⟨by rw [HB.out]; rfl, rfl⟩
    · have HB := Lib.hid (fitsB_no (j := 6) (n := n) (p := 281474976710656) (by decide) (by omega) (by omega))
      go_enter Tryd.func33, Tryd.ntmps33
      go_wp2
      go_ret
      exact ⟨by rw [HB.out]; rfl, rfl⟩
  · have HB := Lib.hid (fitsB_no (j := 6) (n := n) (p := 281474976710656) (by decide) (by omega) (by omega))
    go_enter Tryd.func33, Tryd.ntmps33
    go_wp2
    go_ret
    exact ⟨by rw [HB.out]; rfl, rfl⟩

set_option maxHeartbeats 400000 in
set_option maxRecDepth 20000 in
theorem specFits6 (n : Int) (w : World) (h1 : -9223372036854775808 ≤ n) (h2 : n ≤ 9223372036854775807) : Calls Tryd.prog 17 #[.int .i64 8, .int .i64 n] w (FitP 7 n w) := by
  by_cases c1 : n / 72057594037927936 = 0
  · have HB := Lib.hid (fitsB_yes (j := 7) (n := n) (p := 72057594037927936) (by decide) (by omega) (by omega))
    have b1 : (n / 72057594037927936 == 0) = true := by rw [beq_iff_eq]; exact c1
    go_enter Tryd.func17, Tryd.ntmps17
    go_wp2
    go_ret
    exact ⟨by rw [HB.out]; rfl, rfl⟩
  · have b1 : (n / 72057594037927936 == 0) = false := by rw [beq_eq_false_iff_ne]; exact c1
    by_cases c2 : n / 72057594037927936 = -1
    · have HB := Lib.hid (fitsB_yes (j := 7) (n := n) (p := 72057594037927936) (by decide) (by omega) (by omega))
      have b2 : (n / 72057594037927936 == -1) = true := by rw [beq_iff_eq]; exact c2
      clear c1 c2
      go_enter Tryd.func17, Tryd.ntmps17
      go_wp2
      go_ret
      exact ⟨by rw [HB.out]; rfl, rfl⟩
    · have HB := Lib.hid (fitsB_no (j := 7) (n := n) (p := 72057594037927936) (by decide) (by omega) (by omega))
      have b2 : (n / 72057594037927936 == -1) = false := by rw [beq_eq_false_iff_ne]; exact c2
      clear c1 c2
      go_enter Tryd.func17, Tryd.ntmps17
      go_wp2
      go_ret
      exact ⟨by rw [HB.out]; rfl, rfl⟩
set_option maxHeartbeats 400000 in
set_option maxRecDepth 20000 in
theorem fits256_6 (n : Int) (w : World) (h1 : -9223372036854775808 ≤ n) (h2 : n ≤ 9223372036854775807) : Calls Tryd.prog 33 #[.int .i64 8, .int .i64 n] w (FitP 7 n w) := by
  by_cases c1 : -72057594037927936 ≤ n
  · by_cases c2 : n < 72057594037927936
    · have HB := Lib.hid (fitsB_yes (j := 7) (n := n) (p := 72057594037927936) (by decide) c1 c2)
      go_enter Tryd.func33, Tryd.ntmps33
      go_wp2
      go_ret
      exact ⟨by rw [HB.out]; rfl, rfl⟩
    · have HB := Lib.hid (fitsB_no (j := 7) (n := n) (p := 72057594037927936) (by decide) (by omega) (by omega))
      go_enter Tryd.func33, Tryd.ntmps33
      go_wp2
      go_ret
      exact ⟨by rw [HB.out]; rfl, rfl⟩
  · have HB := Lib.hid (fitsB_no (j := 7) (n := n) (p := 72057594037927936) (by decide) (by omega) (by omega))
    go_enter Tryd.func33, Tryd.ntmps33
    go_wp2
    go_ret
    exact ⟨by rw [HB.out]; rfl, rfl⟩

set_option maxHeartbeats 400000 in
set_option maxRecDepth 20000 in
theorem specFitsB (s : Nat) (z n : Int) (w : World) (hz : z = (s : Int) + 2) (hs : s ≤ 20) (h1 : -9223372036854775808 ≤ n) (h2 : n ≤ 9223372036854775807) : Calls Tryd.prog 17 #[.int .i64 z, .int .i64 n] w (FitP (s + 1) n w) := by
  by_cases hb : 7 ≤ s
  · have HB := Lib.hid (fitsB_big n (show 8 ≤ s + 1 by omega))
    have hz1 : 9 ≤ z := by omega
    have hz2 : z ≤ 22 := by omega
    clear hz
    go_enter Tryd.func17, Tryd.ntmps17
    go_wp2
    go_ret
    exact ⟨by rw [HB.out]; rfl, rfl⟩
  · have hc : s = 0 ∨ s = 1 ∨ s = 2 ∨ s = 3 ∨ s = 4 ∨ s = 5 ∨ s = 6 := by omega
    rcases hc with rfl | rfl | rfl | rfl | rfl | rfl | rfl
    · obtain rfl : z = 2 := by omega
      exact specFits0 n w h1 h2
    · obtain rfl : z = 3 := by omega
      exact specFits1 n w h1 h2
    · obtain rfl : z = 4 := by omega
      exact specFits2 n w h1 h2
    · obtain rfl : z = 5 := by omega
      exact specFits3 n w h1 h2
    · obtain rfl : z = 6 := by omega
      exact specFits4 n w h1 h2
    · obtain rfl : z = 7 := by omega
      exact specFits5 n w h1 h2
    · obtain rfl : z = 8 := by omega
      exact specFits6 n w h1 h2

set_option maxHeartbeats 400000 in
set_option maxRecDepth 20000 in
theorem fits256 (s : Nat) (z n : Int) (w : World) (hz : z = (s : Int) + 2) (hs : s ≤ 20) (h1 : -9223372036854775808 ≤ n) (h2 : n ≤ 9223372036854775807) : Calls Tryd.prog 33 #[.int .i64 z, .int .i64 n] w (FitP (s + 1) n w) := by
  by_cases hb : 7 ≤ s
  · have HB := Lib.hid (fitsB_big n (show 8 ≤ s + 1 by omega))
    have hz1 : 9 ≤ z := by omega
    have hz2 : z ≤ 22 := by omega
    clear hz
    go_enter Tryd.func33, Tryd.ntmps33
    go_wp2
    go_ret
    exact ⟨by rw [HB.out]; rfl, rfl⟩
  · have hc : s = 0 ∨ s = 1 ∨ s = 2 ∨ s = 3 ∨ s = 4 ∨ s = 5 ∨ s = 6 := by omega
    rcases hc with rfl | rfl | rfl | rfl | rfl | rfl | rfl
    · obtain rfl : z = 2 := by omega
      exact fits256_0 n w h1 h2
    · obtain rfl : z = 3 := by omega
      exact fits256_1 n w h1 h2
    · obtain rfl : z = 4 := by omega
      exact fits256_2 n w h1 h2
    · obtain rfl : z = 5 := by omega
      exact fits256_3 n w h1 h2
    · obtain rfl : z = 6 := by omega
      exact fits256_4 n w h1 h2
    · obtain rfl : z = 7 := by omega
      exact fits256_5 n w h1 h2
    · obtain rfl : z = 8 := by omega
      exact fits256_6 n w h1 h2

set_option maxHeartbeats 400000 in
set_option maxRecDepth 20000 in
theorem implFitsB (s : Nat) (z n : Int) (w : World) (hz : z = (s : Int) + 2) (hs : s ≤ 20) (h1 : -9223372036854775808 ≤ n) (h2 : n ≤ 9223372036854775807) : Calls Tryd.prog 18 #[.int .i64 z, .int .i64 n] w (FitP (s + 1) n w) := by
  have HF := fun w => Lib.hid (fits256 s z n w hz hs h1 h2)
  clear hz
  go_enter Tryd.func18, Tryd.ntmps18
  go_wp2_with (first
    | (go_at_call 33; refine (HF _).out.mono ?_; rintro e w' ⟨rfl, rfl⟩)
    | (go_at_call 26; go_in))
  go_ret
  exact ⟨rfl, rfl⟩
end Go.Proofs.YtagjbndcbcepcaaDoor
