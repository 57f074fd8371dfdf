/- Octal and binary numbers of a field: plain words. The walk of laws.below: a number brought into the range from 0 to n-1. Which numbers fit an octal field. Numbers in base 256: plain words. Which numbers fit a field in base 256. Times of records: plain words on nine digits. Records: what spec.ReadRecord answers, in plain words; its walk. Walks of pub/timecore: Unix, the methods Unix and Nanosecond. Listed sentinels: from the tied condition to the variables' cells; their pointers differ. strconv.ParseInt at base 10: one contract for a number, one for none. Walks of validPAXRecord, parsePAXRecord, ZZRecord, impl.ReadRecord. Walks of parsePAXTime, case by case. parsePAXTime where there is a part of a second. Walks of ZZRecord, impl.ReadRecord, FnReadRecord. FnReadRecord: its ways joined. FnRecordIsRead: plain words on a record as PutRecord writes it; the walk. parsePAXTime where the part of a second has another sign; ZZTime, impl.ReadTime: one contract. -/
import Derived.Test.YtepeehjajhehfaaGreatDoorMA1
import Derived.Test.YtepeehjajhehfaaGreatDoorRows
import Derived.Laws.BitsAllLaws
import Derived.Test.YtepeehjajhehfaaGreatDoorMA2
import Derived.Laws.Rows
import Derived.LaidLaws
import Derived.LaidMore
import Derived.ProofKit
import Derived.Stop.ErrReads
import Derived.LaidEql
import Derived.Test.YtepeehjajhehfaaGreatDoorShelf
import Derived.Lib.UnsafeStr
import Derived.Stop.IfaceNil
import Derived.Lib.ParseIntBTie
namespace Go.Proofs.YtepeehjajhehfaaGreatDoor
open Go.RowKit Go.PlainAid
set_option linter.unusedVariables false

/-! ### Octal digits -/
def d8 (c : UInt8) : Prop := 48 ≤ c.toNat ∧ c.toNat ≤ 55
def v8 (acc : Nat) (l : List UInt8) : Nat := l.foldl (fun a c => a * 8 + (c.toNat - 48)) acc
/-! ### What ends a number -/
/-! ### The string up to the first byte 0 -/
/-! ### Numbers in base 256 -/
end Go.Proofs.YtepeehjajhehfaaGreatDoor
namespace Go.Proofs.YtepeehjajhehfaaGreatDoor
open Go.RowKit

end Go.Proofs.YtepeehjajhehfaaGreatDoor
namespace Go.Proofs.YtepeehjajhehfaaGreatDoor
open Go.RowKit Go.PlainAid
set_option linter.unusedVariables false

/-- Whether so many octal digits have room for a number. -/
def fitsO (j : Nat) (n : Int) : Bool := decide (0 ≤ n) && decide (n < ((8 ^ j : Nat) : Int))
def FitOP (j : Nat) (n : Int) (w : World) (e : Ending) (w' : World) : Prop := e = .returned (.bool (fitsO j n)) ∧ w = w'
theorem fitsO_yes {j : Nat} {n : Int} {p : Int} (hp : ((8 ^ j : Nat) : Int) = p) (h1 : 0 ≤ n) (h2 : n < p) : fitsO j n = true := by simp [fitsO, hp, h1, h2]
theorem fitsO_no {j : Nat} {n : Int} {p : Int} (hp : ((8 ^ j : Nat) : Int) = p) (h : ¬ (0 ≤ n ∧ n < p)) : fitsO j n = false := by
  unfold fitsO
  rw [hp]
  simp only [Bool.and_eq_false_iff, decide_eq_false_iff_not]
  omega
set_option maxHeartbeats 400000 in
set_option maxRecDepth 20000 in
theorem fits8_1 (n : Int) (w : World) (h1 : -9223372036854775808 ≤ n) (h2 : n ≤ 9223372036854775807) : Calls Tryz.prog 78 #[.int .i64 2, .int .i64 n] w (FitOP 1 n w) := by
  by_cases c1 : 0 ≤ n
  · by_cases c2 : n < 8
    · have HB := Lib.hid (fitsO_yes (j := 1) (n := n) (p := 8) (by decide) c1 c2)
      go_enter Tryz.func78, Tryz.ntmps78
      go_wp2
      go_ret
      exact ⟨by rw [HB.out]; rfl, rfl⟩
    · have HB := Lib.hid (fitsO_no (j := 1) (n := n) (p := 8) (by decide) (by omega))
      go_enter Tryz.func78, Tryz.ntmps78
      go_wp2
      go_ret
      exact ⟨by rw [HB.out]; rfl, rfl⟩
  · have HB := Lib.hid (fitsO_no (j := 1) (n := n) (p := 8) (by decide) (by omega))
    go_enter Tryz.func78, Tryz.ntmps78
    go_wp2
    go_ret
    exact ⟨by rw [HB.out]; rfl, rfl⟩

set_option maxHeartbeats 400000 in
set_option maxRecDepth 20000 in
theorem fits8_2 (n : Int) (w : World) (h1 : -9223372036854775808 ≤ n) (h2 : n ≤ 9223372036854775807) : Calls Tryz.prog 78 #[.int .i64 3, .int .i64 n] w (FitOP 2 n w) := by
  by_cases c1 : 0 ≤ n
  · by_cases c2 : n < 64
    · have HB := Lib.hid (fitsO_yes (j := 2) (n := n) (p := 64) (by decide) c1 c2)
      go_enter Tryz.func78, Tryz.ntmps78
      go_wp2
      go_ret
      exact ⟨by rw [HB.out]; rfl, rfl⟩
    · have HB := Lib.hid (fitsO_no (j := 2) (n := n) (p := 64) (by decide) (by omega))
      go_enter Tryz.func78, Tryz.ntmps78
      go_wp2
      go_ret
      exact ⟨by rw [HB.out]; rfl, rfl⟩
  · have HB := Lib.hid (fitsO_no (j := 2) (n := n) (p := 64) (by decide) (by omega))
    go_enter Tryz.func78, Tryz.ntmps78
    go_wp2
    go_ret
    exact ⟨by rw [HB.out]; rfl, rfl⟩

set_option maxHeartbeats 400000 in
set_option maxRecDepth 20000 in
theorem fits8_3 (n : Int) (w : World) (h1 : -9223372036854775808 ≤ n) (h2 : n ≤ 9223372036854775807) : Calls Tryz.prog 78 #[.int .i64 4, .int .i64 n] w (FitOP 3 n w) := by
  by_cases c1 : 0 ≤ n
  · by_cases c2 : n < 512
    · have HB := Lib.hid (fitsO_yes (j := 3) (n := n) (p := 512) (by decide) c1 c2)
      go_enter Tryz.func78, Tryz.ntmps78
      go_wp2
      go_ret
      exact ⟨by rw [HB.out]; rfl, rfl⟩
    · have HB := Lib.hid (fitsO_no (j := 3) (n := n) (p := 512) (by decide) (by omega))
      go_enter Tryz.func78, Tryz.ntmps78
      go_wp2
      go_ret
      exact ⟨by rw [HB.out]; rfl, rfl⟩
  · have HB := Lib.hid (fitsO_no (j := 3) (n := n) (p := 512) (by decide) (by omega))
    go_enter Tryz.func78, Tryz.ntmps78
    go_wp2
    go_ret
    exact ⟨by rw [HB.out]; rfl, rfl⟩

set_option maxHeartbeats 400000 in
set_option maxRecDepth 20000 in
theorem fits8_4 (n : Int) (w : World) (h1 : -9223372036854775808 ≤ n) (h2 : n ≤ 9223372036854775807) : Calls Tryz.prog 78 #[.int .i64 5, .int .i64 n] w (FitOP 4 n w) := by
  by_cases c1 : 0 ≤ n
  · by_cases c2 : n < 4096
    · have HB := Lib.hid (fitsO_yes (j := 4) (n := n) (p := 4096) (by decide) c1 c2)
      go_enter Tryz.func78, Tryz.ntmps78
      go_wp2
      go_ret
      exact ⟨by rw [HB.out]; rfl, rfl⟩
    · have HB := Lib.hid (fitsO_no (j := 4) (n := n) (p := 4096) (by decide) (by omega))
      go_enter Tryz.func78, Tryz.ntmps78
      go_wp2
      go_ret
      exact ⟨by rw [HB.out]; rfl, rfl⟩
  · have HB := Lib.hid (fitsO_no (j := 4) (n := n) (p := 4096) (by decide) (by omega))
    go_enter Tryz.func78, Tryz.ntmps78
    go_wp2
    go_ret
    exact ⟨by rw [HB.out]; rfl, rfl⟩

set_option maxHeartbeats 400000 in
set_option maxRecDepth 20000 in
theorem fits8_5 (n : Int) (w : World) (h1 : -9223372036854775808 ≤ n) (h2 : n ≤ 9223372036854775807) : Calls Tryz.prog 78 #[.int .i64 6, .int .i64 n] w (FitOP 5 n w) := by
  by_cases c1 : 0 ≤ n
  · by_cases c2 : n < 32768
    · have HB := Lib.hid (fitsO_yes (j := 5) (n := n) (p := 32768) (by decide) c1 c2)
      go_enter Tryz.func78, Tryz.ntmps78
      go_wp2
      go_ret
      exact ⟨by rw [HB.out]; rfl, rfl⟩
    · have HB := Lib.hid (fitsO_no (j := 5) (n := n) (p := 32768) (by decide) (by omega))
      go_enter Tryz.func78, Tryz.ntmps78
      go_wp2
      go_ret
      exact ⟨by rw [HB.out]; rfl, rfl⟩
  · have HB := Lib.hid (fitsO_no (j := 5) (n := n) (p := 32768) (by decide) (by omega))
    go_enter Tryz.func78, Tryz.ntmps78
    go_wp2
    go_ret
    exact ⟨by rw [HB.out]; rfl, rfl⟩

set_option maxHeartbeats 400000 in
set_option maxRecDepth 20000 in
theorem fits8_6 (n : Int) (w : World) (h1 : -9223372036854775808 ≤ n) (h2 : n ≤ 9223372036854775807) : Calls Tryz.prog 78 #[.int .i64 7, .int .i64 n] w (FitOP 6 n w) := by
  by_cases c1 : 0 ≤ n
  · by_cases c2 : n < 262144
    · have HB := Lib.hid (fitsO_yes (j := 6) (n := n) (p := 262144) (by decide) c1 c2)
      go_enter Tryz.func78, Tryz.ntmps78
      go_wp2
      go_ret
      exact ⟨by rw [HB.out]; rfl, rfl⟩
    · have HB := Lib.hid (fitsO_no (j := 6) (n := n) (p := 262144) (by decide) (by omega))
      go_enter Tryz.func78, Tryz.ntmps78
      go_wp2
      go_ret
      exact ⟨by rw [HB.out]; rfl, rfl⟩
  · have HB := Lib.hid (fitsO_no (j := 6) (n := n) (p := 262144) (by decide) (by omega))
    go_enter Tryz.func78, Tryz.ntmps78
    go_wp2
    go_ret
    exact ⟨by rw [HB.out]; rfl, rfl⟩

set_option maxHeartbeats 400000 in
set_option maxRecDepth 20000 in
theorem fits8_7 (n : Int) (w : World) (h1 : -9223372036854775808 ≤ n) (h2 : n ≤ 9223372036854775807) : Calls Tryz.prog 78 #[.int .i64 8, .int .i64 n] w (FitOP 7 n w) := by
  by_cases c1 : 0 ≤ n
  · by_cases c2 : n < 2097152
    · have HB := Lib.hid (fitsO_yes (j := 7) (n := n) (p := 2097152) (by decide) c1 c2)
      go_enter Tryz.func78, Tryz.ntmps78
      go_wp2
      go_ret
      exact ⟨by rw [HB.out]; rfl, rfl⟩
    · have HB := Lib.hid (fitsO_no (j := 7) (n := n) (p := 2097152) (by decide) (by omega))
      go_enter Tryz.func78, Tryz.ntmps78
      go_wp2
      go_ret
      exact ⟨by rw [HB.out]; rfl, rfl⟩
  · have HB := Lib.hid (fitsO_no (j := 7) (n := n) (p := 2097152) (by decide) (by omega))
    go_enter Tryz.func78, Tryz.ntmps78
    go_wp2
    go_ret
    exact ⟨by rw [HB.out]; rfl, rfl⟩

set_option maxHeartbeats 400000 in
set_option maxRecDepth 20000 in
theorem fits8_8 (n : Int) (w : World) (h1 : -9223372036854775808 ≤ n) (h2 : n ≤ 9223372036854775807) : Calls Tryz.prog 78 #[.int .i64 9, .int .i64 n] w (FitOP 8 n w) := by
  by_cases c1 : 0 ≤ n
  · by_cases c2 : n < 16777216
    · have HB := Lib.hid (fitsO_yes (j := 8) (n := n) (p := 16777216) (by decide) c1 c2)
      go_enter Tryz.func78, Tryz.ntmps78
      go_wp2
      go_ret
      exact ⟨by rw [HB.out]; rfl, rfl⟩
    · have HB := Lib.hid (fitsO_no (j := 8) (n := n) (p := 16777216) (by decide) (by omega))
      go_enter Tryz.func78, Tryz.ntmps78
      go_wp2
      go_ret
      exact ⟨by rw [HB.out]; rfl, rfl⟩
  · have HB := Lib.hid (fitsO_no (j := 8) (n := n) (p := 16777216) (by decide) (by omega))
    go_enter Tryz.func78, Tryz.ntmps78
    go_wp2
    go_ret
    exact ⟨by rw [HB.out]; rfl, rfl⟩

set_option maxHeartbeats 400000 in
set_option maxRecDepth 20000 in
theorem fits8_9 (n : Int) (w : World) (h1 : -9223372036854775808 ≤ n) (h2 : n ≤ 9223372036854775807) : Calls Tryz.prog 78 #[.int .i64 10, .int .i64 n] w (FitOP 9 n w) := by
  by_cases c1 : 0 ≤ n
  · by_cases c2 : n < 134217728
    · have HB := Lib.hid (fitsO_yes (j := 9) (n := n) (p := 134217728) (by decide) c1 c2)
      go_enter Tryz.func78, Tryz.ntmps78
      go_wp2
      go_ret
      exact ⟨by rw [HB.out]; rfl, rfl⟩
    · have HB := Lib.hid (fitsO_no (j := 9) (n := n) (p := 134217728) (by decide) (by omega))
      go_enter Tryz.func78, Tryz.ntmps78
      go_wp2
      go_ret
      exact ⟨by rw [HB.out]; rfl, rfl⟩
  · have HB := Lib.hid (fitsO_no (j := 9) (n := n) (p := 134217728) (by decide) (by omega))
    go_enter Tryz.func78, Tryz.ntmps78
    go_wp2
    go_ret
    exact ⟨by rw [HB.out]; rfl, rfl⟩

set_option maxHeartbeats 400000 in
set_option maxRecDepth 20000 in
theorem fits8_10 (n : Int) (w : World) (h1 : -9223372036854775808 ≤ n) (h2 : n ≤ 9223372036854775807) : Calls Tryz.prog 78 #[.int .i64 11, .int .i64 n] w (FitOP 10 n w) := by
  by_cases c1 : 0 ≤ n
  · by_cases c2 : n < 1073741824
    · have HB := Lib.hid (fitsO_yes (j := 10) (n := n) (p := 1073741824) (by decide) c1 c2)
      go_enter Tryz.func78, Tryz.ntmps78
      go_wp2
      go_ret
      exact ⟨by rw [HB.out]; rfl, rfl⟩
    · have HB := Lib.hid (fitsO_no (j := 10) (n := n) (p := 1073741824) (by decide) (by omega))
      go_enter Tryz.func78, Tryz.ntmps78
      go_wp2
      go_ret
      exact ⟨by rw [HB.out]; rfl, rfl⟩
  · have HB := Lib.hid (fitsO_no (j := 10) (n := n) (p := 1073741824) (by decide) (by omega))
    go_enter Tryz.func78, Tryz.ntmps78
    go_wp2
    go_ret
    exact ⟨by rw [HB.out]; rfl, rfl⟩

set_option maxHeartbeats 400000 in
set_option maxRecDepth 20000 in
theorem fits8_11 (n : Int) (w : World) (h1 : -9223372036854775808 ≤ n) (h2 : n ≤ 9223372036854775807) : Calls Tryz.prog 78 #[.int .i64 12, .int .i64 n] w (FitOP 11 n w) := by
  by_cases c1 : 0 ≤ n
  · by_cases c2 : n < 8589934592
    · have HB := Lib.hid (fitsO_yes (j := 11) (n := n) (p := 8589934592) (by decide) c1 c2)
      go_enter Tryz.func78, Tryz.ntmps78
      go_wp2
      go_ret
      exact ⟨by rw [HB.out]; rfl, rfl⟩
    · have HB := Lib.hid (fitsO_no (j := 11) (n := n) (p := 8589934592) (by decide) (by omega))
      go_enter Tryz.func78, Tryz.ntmps78
      go_wp2
      go_ret
      exact ⟨by rw [HB.out]; rfl, rfl⟩
  · have HB := Lib.hid (fitsO_no (j := 11) (n := n) (p := 8589934592) (by decide) (by omega))
    go_enter Tryz.func78, Tryz.ntmps78
    go_wp2
    go_ret
    exact ⟨by rw [HB.out]; rfl, rfl⟩

set_option maxHeartbeats 400000 in
set_option maxRecDepth 20000 in
theorem fits8_12 (n : Int) (w : World) (h1 : -9223372036854775808 ≤ n) (h2 : n ≤ 9223372036854775807) : Calls Tryz.prog 78 #[.int .i64 13, .int .i64 n] w (FitOP 12 n w) := by
  by_cases c1 : 0 ≤ n
  · by_cases c2 : n < 68719476736
    · have HB := Lib.hid (fitsO_yes (j := 12) (n := n) (p := 68719476736) (by decide) c1 c2)
      go_enter Tryz.func78, Tryz.ntmps78
      go_wp2
      go_ret
      exact ⟨by rw [HB.out]; rfl, rfl⟩
    · have HB := Lib.hid (fitsO_no (j := 12) (n := n) (p := 68719476736) (by decide) (by omega))
      go_enter Tryz.func78, Tryz.ntmps78
      go_wp2
      go_ret
      exact ⟨by rw [HB.out]; rfl, rfl⟩
  · have HB := Lib.hid (fitsO_no (j := 12) (n := n) (p := 68719476736) (by decide) (by omega))
    go_enter Tryz.func78, Tryz.ntmps78
    go_wp2
    go_ret
    exact ⟨by rw [HB.out]; rfl, rfl⟩

set_option maxHeartbeats 400000 in
set_option maxRecDepth 20000 in
theorem fits8_13 (n : Int) (w : World) (h1 : -9223372036854775808 ≤ n) (h2 : n ≤ 9223372036854775807) : Calls Tryz.prog 78 #[.int .i64 14, .int .i64 n] w (FitOP 13 n w) := by
  by_cases c1 : 0 ≤ n
  · by_cases c2 : n < 549755813888
    · have HB := Lib.hid (fitsO_yes (j := 13) (n := n) (p := 549755813888) (by decide) c1 c2)
      go_enter Tryz.func78, Tryz.ntmps78
      go_wp2
      go_ret
      exact ⟨by rw [HB.out]; rfl, rfl⟩
    · have HB := Lib.hid (fitsO_no (j := 13) (n := n) (p := 549755813888) (by decide) (by omega))
      go_enter Tryz.func78, Tryz.ntmps78
      go_wp2
      go_ret
      exact ⟨by rw [HB.out]; rfl, rfl⟩
  · have HB := Lib.hid (fitsO_no (j := 13) (n := n) (p := 549755813888) (by decide) (by omega))
    go_enter Tryz.func78, Tryz.ntmps78
    go_wp2
    go_ret
    exact ⟨by rw [HB.out]; rfl, rfl⟩

set_option maxHeartbeats 400000 in
set_option maxRecDepth 20000 in
theorem fits8_14 (n : Int) (w : World) (h1 : -9223372036854775808 ≤ n) (h2 : n ≤ 9223372036854775807) : Calls Tryz.prog 78 #[.int .i64 15, .int .i64 n] w (FitOP 14 n w) := by
  by_cases c1 : 0 ≤ n
  · by_cases c2 : n < 4398046511104
    · have HB := Lib.hid (fitsO_yes (j := 14) (n := n) (p := 4398046511104) (by decide) c1 c2)
      go_enter Tryz.func78, Tryz.ntmps78
      go_wp2
      go_ret
      exact ⟨by rw [HB.out]; rfl, rfl⟩
    · have HB := Lib.hid (fitsO_no (j := 14) (n := n) (p := 4398046511104) (by decide) (by omega))
      go_enter Tryz.func78, Tryz.ntmps78
      go_wp2
      go_ret
      exact ⟨by rw [HB.out]; rfl, rfl⟩
  · have HB := Lib.hid (fitsO_no (j := 14) (n := n) (p := 4398046511104) (by decide) (by omega))
    go_enter Tryz.func78, Tryz.ntmps78
    go_wp2
    go_ret
    exact ⟨by rw [HB.out]; rfl, rfl⟩

set_option maxHeartbeats 400000 in
set_option maxRecDepth 20000 in
theorem fits8_15 (n : Int) (w : World) (h1 : -9223372036854775808 ≤ n) (h2 : n ≤ 9223372036854775807) : Calls Tryz.prog 78 #[.int .i64 16, .int .i64 n] w (FitOP 15 n w) := by
  by_cases c1 : 0 ≤ n
  · by_cases c2 : n < 35184372088832
    · have HB := Lib.hid (fitsO_yes (j := 15) (n := n) (p := 35184372088832) (by decide) c1 c2)
      go_enter Tryz.func78, Tryz.ntmps78
      go_wp2
      go_ret
      exact ⟨by rw [HB.out]; rfl, rfl⟩
    · have HB := Lib.hid (fitsO_no (j := 15) (n := n) (p := 35184372088832) (by decide) (by omega))
      go_enter Tryz.func78, Tryz.ntmps78
      go_wp2
      go_ret
      exact ⟨by rw [HB.out]; rfl, rfl⟩
  · have HB := Lib.hid (fitsO_no (j := 15) (n := n) (p := 35184372088832) (by decide) (by omega))
    go_enter Tryz.func78, Tryz.ntmps78
    go_wp2
    go_ret
    exact ⟨by rw [HB.out]; rfl, rfl⟩

set_option maxHeartbeats 400000 in
set_option maxRecDepth 20000 in
theorem fits8_16 (n : Int) (w : World) (h1 : -9223372036854775808 ≤ n) (h2 : n ≤ 9223372036854775807) : Calls Tryz.prog 78 #[.int .i64 17, .int .i64 n] w (FitOP 16 n w) := by
  by_cases c1 : 0 ≤ n
  · by_cases c2 : n < 281474976710656
    · have HB := Lib.hid (fitsO_yes (j := 16) (n := n) (p := 281474976710656) (by decide) c1 c2)
      go_enter Tryz.func78, Tryz.ntmps78
      go_wp2
      go_ret
      exact ⟨by rw [HB.out]; rfl, rfl⟩
    · have HB := Lib.hid (fitsO_no (j := 16) (n := n) (p := 281474976710656) (by decide) (by omega))
      go_enter Tryz.func78, Tryz.ntmps78
      go_wp2
      go_ret
      exact ⟨by rw [HB.out]; rfl, rfl⟩
  · have HB := Lib.hid (fitsO_no (j := 16) (n := n) (p := 281474976710656) (by decide) (by omega))
    go_enter Tryz.func78, Tryz.ntmps78
    go_wp2
    go_ret
    exact ⟨by rw [HB.out]; rfl, rfl⟩

set_option maxHeartbeats 400000 in
set_option maxRecDepth 20000 in
theorem fits8_17 (n : Int) (w : World) (h1 : -9223372036854775808 ≤ n) (h2 : n ≤ 9223372036854775807) : Calls Tryz.prog 78 #[.int .i64 18, .int .i64 n] w (FitOP 17 n w) := by
  by_cases c1 : 0 ≤ n
  · by_cases c2 : n < 2251799813685248
    · have HB := Lib.hid (fitsO_yes (j := 17) (n := n) (p := 2251799813685248) (by decide) c1 c2)
      go_enter Tryz.func78, Tryz.ntmps78
      go_wp2
      go_ret
      exact ⟨by rw [HB.out]; rfl, rfl⟩
    · have HB := Lib.hid (fitsO_no (j := 17) (n := n) (p := 2251799813685248) (by decide) (by omega))
      go_enter Tryz.func78, Tryz.ntmps78
      go_wp2
      go_ret
      exact ⟨by rw [HB.out]; rfl, rfl⟩
  · have HB := Lib.hid (fitsO_no (j := 17) (n := n) (p := 2251799813685248) (by decide) (by omega))
    go_enter Tryz.func78, Tryz.ntmps78
    go_wp2
    go_ret
    exact ⟨by rw [HB.out]; rfl, rfl⟩

set_option maxHeartbeats 400000 in
set_option maxRecDepth 20000 in
theorem fits8_18 (n : Int) (w : World) (h1 : -9223372036854775808 ≤ n) (h2 : n ≤ 9223372036854775807) : Calls Tryz.prog 78 #[.int .i64 19, .int .i64 n] w (FitOP 18 n w) := by
  by_cases c1 : 0 ≤ n
  · by_cases c2 : n < 18014398509481984
    · have HB := Lib.hid (fitsO_yes (j := 18) (n := n) (p := 18014398509481984) (by decide) c1 c2)
      go_enter Tryz.func78, Tryz.ntmps78
      go_wp2
      go_ret
      exact ⟨by rw [HB.out]; rfl, rfl⟩
    · have HB := Lib.hid (fitsO_no (j := 18) (n := n) (p := 18014398509481984) (by decide) (by omega))
      go_enter Tryz.func78, Tryz.ntmps78
      go_wp2
      go_ret
      exact ⟨by rw [HB.out]; rfl, rfl⟩
  · have HB := Lib.hid (fitsO_no (j := 18) (n := n) (p := 18014398509481984) (by decide) (by omega))
    go_enter Tryz.func78, Tryz.ntmps78
    go_wp2
    go_ret
    exact ⟨by rw [HB.out]; rfl, rfl⟩

set_option maxHeartbeats 400000 in
set_option maxRecDepth 20000 in
theorem fits8_19 (n : Int) (w : World) (h1 : -9223372036854775808 ≤ n) (h2 : n ≤ 9223372036854775807) : Calls Tryz.prog 78 #[.int .i64 20, .int .i64 n] w (FitOP 19 n w) := by
  by_cases c1 : 0 ≤ n
  · by_cases c2 : n < 144115188075855872
    · have HB := Lib.hid (fitsO_yes (j := 19) (n := n) (p := 144115188075855872) (by decide) c1 c2)
      go_enter Tryz.func78, Tryz.ntmps78
      go_wp2
      go_ret
      exact ⟨by rw [HB.out]; rfl, rfl⟩
    · have HB := Lib.hid (fitsO_no (j := 19) (n := n) (p := 144115188075855872) (by decide) (by omega))
      go_enter Tryz.func78, Tryz.ntmps78
      go_wp2
      go_ret
      exact ⟨by rw [HB.out]; rfl, rfl⟩
  · have HB := Lib.hid (fitsO_no (j := 19) (n := n) (p := 144115188075855872) (by decide) (by omega))
    go_enter Tryz.func78, Tryz.ntmps78
    go_wp2
    go_ret
    exact ⟨by rw [HB.out]; rfl, rfl⟩

set_option maxHeartbeats 400000 in
set_option maxRecDepth 20000 in
theorem fits8_20 (n : Int) (w : World) (h1 : -9223372036854775808 ≤ n) (h2 : n ≤ 9223372036854775807) : Calls Tryz.prog 78 #[.int .i64 21, .int .i64 n] w (FitOP 20 n w) := by
  by_cases c1 : 0 ≤ n
  · by_cases c2 : n < 1152921504606846976
    · have HB := Lib.hid (fitsO_yes (j := 20) (n := n) (p := 1152921504606846976) (by decide) c1 c2)
      go_enter Tryz.func78, Tryz.ntmps78
      go_wp2
      go_ret
      exact ⟨by rw [HB.out]; rfl, rfl⟩
    · have HB := Lib.hid (fitsO_no (j := 20) (n := n) (p := 1152921504606846976) (by decide) (by omega))
      go_enter Tryz.func78, Tryz.ntmps78
      go_wp2
      go_ret
      exact ⟨by rw [HB.out]; rfl, rfl⟩
  · have HB := Lib.hid (fitsO_no (j := 20) (n := n) (p := 1152921504606846976) (by decide) (by omega))
    go_enter Tryz.func78, Tryz.ntmps78
    go_wp2
    go_ret
    exact ⟨by rw [HB.out]; rfl, rfl⟩

set_option maxHeartbeats 400000 in
set_option maxRecDepth 20000 in
theorem fits8 (j : Nat) (z n : Int) (w : World) (hz : z = (j : Int) + 1) (hj1 : 1 ≤ j) (hj : j ≤ 21) (h1 : -9223372036854775808 ≤ n) (h2 : n ≤ 9223372036854775807) : Calls Tryz.prog 78 #[.int .i64 z, .int .i64 n] w (FitOP j n w) := by
  by_cases hb : j = 21
  · subst hb
    obtain rfl : z = 22 := by omega
    by_cases c1 : 0 ≤ n
    · have HB := Lib.hid (fitsO_yes (j := 21) (n := n) (p := 9223372036854775808) (by decide) c1 (by omega))
      go_enter Tryz.func78, Tryz.ntmps78
      go_wp2
      go_ret
      exact ⟨by rw [HB.out]; rfl, rfl⟩
    · have HB := Lib.hid (fitsO_no (j := 21) (n := n) (p := 9223372036854775808) (by decide) (by omega))
      go_enter Tryz.func78, Tryz.ntmps78
      go_wp2
      go_ret
      exact ⟨by rw [HB.out]; rfl, rfl⟩
  · have hc : j = 1 ∨ j = 2 ∨ j = 3 ∨ j = 4 ∨ j = 5 ∨ j = 6 ∨ j = 7 ∨ j = 8 ∨ j = 9 ∨ j = 10 ∨ j = 11 ∨ j = 12 ∨ j = 13 ∨ j = 14 ∨ j = 15 ∨ j = 16 ∨ j = 17 ∨ j = 18 ∨ j = 19 ∨ j = 20 := by omega
    rcases hc with rfl | rfl | rfl | rfl | rfl | rfl | rfl | rfl | rfl | rfl | rfl | rfl | rfl | rfl | rfl | rfl | rfl | rfl | rfl | rfl
    · obtain rfl : z = 2 := by omega
      exact fits8_1 n w h1 h2
    · obtain rfl : z = 3 := by omega
      exact fits8_2 n w h1 h2
    · obtain rfl : z = 4 := by omega
      exact fits8_3 n w h1 h2
    · obtain rfl : z = 5 := by omega
      exact fits8_4 n w h1 h2
    · obtain rfl : z = 6 := by omega
      exact fits8_5 n w h1 h2
    · obtain rfl : z = 7 := by omega
      exact fits8_6 n w h1 h2
    · obtain rfl : z = 8 := by omega
      exact fits8_7 n w h1 h2
    · obtain rfl : z = 9 := by omega
      exact fits8_8 n w h1 h2
    · obtain rfl : z = 10 := by omega
      exact fits8_9 n w h1 h2
    · obtain rfl : z = 11 := by omega
      exact fits8_10 n w h1 h2
    · obtain rfl : z = 12 := by omega
      exact fits8_11 n w h1 h2
    · obtain rfl : z = 13 := by omega
      exact fits8_12 n w h1 h2
    · obtain rfl : z = 14 := by omega
      exact fits8_13 n w h1 h2
    · obtain rfl : z = 15 := by omega
      exact fits8_14 n w h1 h2
    · obtain rfl : z = 16 := by omega
      exact fits8_15 n w h1 h2
    · obtain rfl : z = 17 := by omega
      exact fits8_16 n w h1 h2
    · obtain rfl : z = 18 := by omega
      exact fits8_17 n w h1 h2
    · obtain rfl : z = 19 := by omega
      exact fits8_18 n w h1 h2
    · obtain rfl : z = 20 := by omega
      exact fits8_19 n w h1 h2
    · obtain rfl : z = 21 := by omega
      exact fits8_20 n w h1 h2

end Go.Proofs.YtepeehjajhehfaaGreatDoor
namespace Go.Proofs.YtepeehjajhehfaaGreatDoor
open Go.RowKit Go.PlainAid
set_option linter.unusedVariables false

def bn (acc : Nat) (l : List Nat) : Nat := l.foldl (fun a d => a * 256 + d) acc
end Go.Proofs.YtepeehjajhehfaaGreatDoor
namespace Go.Proofs.YtepeehjajhehfaaGreatDoor
open Go.RowKit Go.PlainAid
set_option linter.unusedVariables false

/-- Whether so many bytes have room for a number and its sign. -/
def fitsB (j : Nat) (n : Int) : Bool := decide (8 ≤ j) || (decide (-((256 ^ j : Nat) : Int) ≤ n) && decide (n < ((256 ^ j : Nat) : Int)))
def FitP (j : Nat) (n : Int) (w : World) (e : Ending) (w' : World) : Prop := e = .returned (.bool (fitsB j n)) ∧ w = w'
theorem fitsB_big {j : Nat} (n : Int) (h : 8 ≤ j) : fitsB j n = true := by simp [fitsB, h]
theorem fitsB_yes {j : Nat} {n : Int} {p : Int} (hp : ((256 ^ j : Nat) : Int) = p) (h1 : -p ≤ n) (h2 : n < p) : fitsB j n = true := by simp [fitsB, hp, h1, h2]
theorem fitsB_no {j : Nat} {n : Int} {p : Int} (hp : ((256 ^ j : Nat) : Int) = p) (hj : j < 8) (h : ¬ (-p ≤ n ∧ n < p)) : fitsB j n = false := by
  unfold fitsB
  rw [hp, decide_eq_false (by omega : ¬ 8 ≤ j)]
  simp only [Bool.false_or, Bool.and_eq_false_iff, decide_eq_false_iff_not]
  omega

set_option maxHeartbeats 400000 in
set_option maxRecDepth 20000 in
theorem fits256_0 (n : Int) (w : World) (h1 : -9223372036854775808 ≤ n) (h2 : n ≤ 9223372036854775807) : Calls Tryz.prog 77 #[.int .i64 2, .int .i64 n] w (FitP 1 n w) := by
  by_cases c1 : -256 ≤ n
  · by_cases c2 : n < 256
    · have HB := Lib.hid (fitsB_yes (j := 1) (n := n) (p := 256) (by decide) c1 c2)
      go_enter Tryz.func77, Tryz.ntmps77
      go_wp2
      go_ret
      exact ⟨by rw [HB.out]; rfl, rfl⟩
    · have HB := Lib.hid (fitsB_no (j := 1) (n := n) (p := 256) (by decide) (by omega) (by omega))
      go_enter Tryz.func77, Tryz.ntmps77
      go_wp2
      go_ret
      exact ⟨by rw [HB.out]; rfl, rfl⟩
  · have HB := Lib.hid (fitsB_no (j := 1) (n := n) (p := 256) (by decide) (by omega) (by omega))
    go_enter Tryz.func77, Tryz.ntmps77
    go_wp2
    go_ret
    exact ⟨by rw [HB.out]; rfl, rfl⟩

set_option maxHeartbeats 400000 in
set_option maxRecDepth 20000 in
theorem fits256_1 (n : Int) (w : World) (h1 : -9223372036854775808 ≤ n) (h2 : n ≤ 9223372036854775807) : Calls Tryz.prog 77 #[.int .i64 3, .int .i64 n] w (FitP 2 n w) := by
  by_cases c1 : -65536 ≤ n
  · by_cases c2 : n < 65536
    · have HB := Lib.hid (fitsB_yes (j := 2) (n := n) (p := 65536) (by decide) c1 c2)
      go_enter Tryz.func77, Tryz.ntmps77
      go_wp2
      go_ret
      exact ⟨by rw [HB.out]; rfl, rfl⟩
    · have HB := Lib.hid (fitsB_no (j := 2) (n := n) (p := 65536) (by decide) (by omega) (by omega))
      go_enter Tryz.func77, Tryz.ntmps77
      go_wp2
      go_ret
      exact ⟨by rw [HB.out]; rfl, rfl⟩
  · have HB := Lib.hid (fitsB_no (j := 2) (n := n) (p := 65536) (by decide) (by omega) (by omega))
    go_enter Tryz.func77, Tryz.ntmps77
    go_wp2
    go_ret
    exact ⟨by rw [HB.out]; rfl, rfl⟩

set_option maxHeartbeats 400000 in
set_option maxRecDepth 20000 in
theorem fits256_2 (n : Int) (w : World) (h1 : -9223372036854775808 ≤ n) (h2 : n ≤ 9223372036854775807) : Calls Tryz.prog 77 #[.int .i64 4, .int .i64 n] w (FitP 3 n w) := by
  by_cases c1 : -16777216 ≤ n
  · by_cases c2 : n < 16777216
    · have HB := Lib.hid (fitsB_yes (j := 3) (n := n) (p := 16777216) (by decide) c1 c2)
      go_enter Tryz.func77, Tryz.ntmps77
      go_wp2
      go_ret
      exact ⟨by rw [HB.out]; rfl, rfl⟩
    · have HB := Lib.hid (fitsB_no (j := 3) (n := n) (p := 16777216) (by decide) (by omega) (by omega))
      go_enter Tryz.func77, Tryz.ntmps77
      go_wp2
      go_ret
      exact ⟨by rw [HB.out]; rfl, rfl⟩
  · have HB := Lib.hid (fitsB_no (j := 3) (n := n) (p := 16777216) (by decide) (by omega) (by omega))
    go_enter Tryz.func77, Tryz.ntmps77
    go_wp2
    go_ret
    exact ⟨by rw [HB.out]; rfl, rfl⟩

set_option maxHeartbeats 400000 in
set_option maxRecDepth 20000 in
theorem fits256_3 (n : Int) (w : World) (h1 : -9223372036854775808 ≤ n) (h2 : n ≤ 9223372036854775807) : Calls Tryz.prog 77 #[.int .i64 5, .int .i64 n] w (FitP 4 n w) := by
  by_cases c1 : -4294967296 ≤ n
  · by_cases c2 : n < 4294967296
    · have HB := Lib.hid (fitsB_yes (j := 4) (n := n) (p := 4294967296) (by decide) c1 c2)
      go_enter Tryz.func77, Tryz.ntmps77
      go_wp2
      go_ret
      exact ⟨by rw [HB.out]; rfl, rfl⟩
    · have HB := Lib.hid (fitsB_no (j := 4) (n := n) (p := 4294967296) (by decide) (by omega) (by omega))
      go_enter Tryz.func77, Tryz.ntmps77
      go_wp2
      go_ret
      exact ⟨by rw [HB.out]; rfl, rfl⟩
  · have HB := Lib.hid (fitsB_no (j := 4) (n := n) (p := 4294967296) (by decide) (by omega) (by omega))
    go_enter Tryz.func77, Tryz.ntmps77
    go_wp2
    go_ret
    exact ⟨by rw [HB.out]; rfl, rfl⟩

set_option maxHeartbeats 400000 in
set_option maxRecDepth 20000 in
theorem fits256_4 (n : Int) (w : World) (h1 : -9223372036854775808 ≤ n) (h2 : n ≤ 9223372036854775807) : Calls Tryz.prog 77 #[.int .i64 6, .int .i64 n] w (FitP 5 n w) := by
  by_cases c1 : -1099511627776 ≤ n
  · by_cases c2 : n < 1099511627776
    · have HB := Lib.hid (fitsB_yes (j := 5) (n := n) (p := 1099511627776) (by decide) c1 c2)
      go_enter Tryz.func77, Tryz.ntmps77
      go_wp2
      go_ret
      exact ⟨by rw [HB.out]; rfl, rfl⟩
    · have HB := Lib.hid (fitsB_no (j := 5) (n := n) (p := 1099511627776) (by decide) (by omega) (by omega))
      go_enter Tryz.func77, Tryz.ntmps77
      go_wp2
      go_ret
      exact ⟨by rw [HB.out]; rfl, rfl⟩
  · have HB := Lib.hid (fitsB_no (j := 5) (n := n) (p := 1099511627776) (by decide) (by omega) (by omega))
    go_enter Tryz.func77, Tryz.ntmps77
    go_wp2
    go_ret
    exact ⟨by rw [HB.out]; rfl, rfl⟩

set_option maxHeartbeats 400000 in
set_option maxRecDepth 20000 in
theorem fits256_5 (n : Int) (w : World) (h1 : -9223372036854775808 ≤ n) (h2 : n ≤ 9223372036854775807) : Calls Tryz.prog 77 #[.int .i64 7, .int .i64 n] w (FitP 6 n w) := by
  by_cases c1 : -281474976710656 ≤ n
  · by_cases c2 : n < 281474976710656
    · have HB := Lib.hid (fitsB_yes (j := 6) (n := n) (p := 281474976710656) (by decide) c1 c2)
      go_enter Tryz.func77, Tryz.ntmps77
      go_wp2
      go_ret
      exact ⟨by rw [HB.out]; rfl, rfl⟩
    · have HB := Lib.hid (fitsB_no (j := 6) (n := n) (p := 281474976710656) (by decide) (by omega) (by omega))
      go_enter Tryz.func77, Tryz.ntmps77
      go_wp2
      go_ret
      exact ⟨by rw [HB.out]; rfl, rfl⟩
  · have HB := Lib.hid (fitsB_no (j := 6) (n := n) (p := 281474976710656) (by decide) (by omega) (by omega))
    go_enter Tryz.func77, Tryz.ntmps77
    go_wp2
    go_ret
    exact ⟨by rw [HB.out]; rfl, rfl⟩

set_option maxHeartbeats 400000 in
set_option maxRecDepth 20000 in
theorem fits256_6 (n : Int) (w : World) (h1 : -9223372036854775808 ≤ n) (h2 : n ≤ 9223372036854775807) : Calls Tryz.prog 77 #[.int .i64 8, .int .i64 n] w (FitP 7 n w) := by
  by_cases c1 : -72057594037927936 ≤ n
  · by_cases c2 : n < 72057594037927936
    · have HB := Lib.hid (fitsB_yes (j := 7) (n := n) (p := 72057594037927936) (by decide) c1 c2)
      go_enter Tryz.func77, Tryz.ntmps77
      go_wp2
      go_ret
      exact ⟨by rw [HB.out]; rfl, rfl⟩
    · have HB := Lib.hid (fitsB_no (j := 7) (n := n) (p := 72057594037927936) (by decide) (by omega) (by omega))
      go_enter Tryz.func77, Tryz.ntmps77
      go_wp2
      go_ret
      exact ⟨by rw [HB.out]; rfl, rfl⟩
  · have HB := Lib.hid (fitsB_no (j := 7) (n := n) (p := 72057594037927936) (by decide) (by omega) (by omega))
    go_enter Tryz.func77, Tryz.ntmps77
    go_wp2
    go_ret
    exact ⟨by rw [HB.out]; rfl, rfl⟩


set_option maxHeartbeats 400000 in
set_option maxRecDepth 20000 in
theorem fits256 (s : Nat) (z n : Int) (w : World) (hz : z = (s : Int) + 2) (hs : s ≤ 20) (h1 : -9223372036854775808 ≤ n) (h2 : n ≤ 9223372036854775807) : Calls Tryz.prog 77 #[.int .i64 z, .int .i64 n] w (FitP (s + 1) n w) := by
  by_cases hb : 7 ≤ s
  · have HB := Lib.hid (fitsB_big n (show 8 ≤ s + 1 by omega))
    have hz1 : 9 ≤ z := by omega
    have hz2 : z ≤ 22 := by omega
    clear hz
    go_enter Tryz.func77, Tryz.ntmps77
    go_wp2
    go_ret
    exact ⟨by rw [HB.out]; rfl, rfl⟩
  · have hc : s = 0 ∨ s = 1 ∨ s = 2 ∨ s = 3 ∨ s = 4 ∨ s = 5 ∨ s = 6 := by omega
    rcases hc with rfl | rfl | rfl | rfl | rfl | rfl | rfl
    · obtain rfl : z = 2 := by omega
      exact fits256_0 n w h1 h2
    · obtain rfl : z = 3 := by omega
      exact fits256_1 n w h1 h2
    · obtain rfl : z = 4 := by omega
      exact fits256_2 n w h1 h2
    · obtain rfl : z = 5 := by omega
      exact fits256_3 n w h1 h2
    · obtain rfl : z = 6 := by omega
      exact fits256_4 n w h1 h2
    · obtain rfl : z = 7 := by omega
      exact fits256_5 n w h1 h2
    · obtain rfl : z = 8 := by omega
      exact fits256_6 n w h1 h2

end Go.Proofs.YtepeehjajhehfaaGreatDoor
namespace Go.Proofs.YtepeehjajhehfaaGreatDoor
open Go.RowKit Go.PlainAid
set_option linter.unusedVariables false

/-- Nine digits: the first k of a list, nought behind. -/
def nineL (l : List UInt8) (k : Nat) : List UInt8 := (l.take k ++ List.replicate 9 48).take 9
theorem nineL_len (l : List UInt8) (k : Nat) : (nineL l k).length = 9 := by
  unfold nineL
  rw [List.length_take, List.length_append, List.length_replicate]
  omega
theorem nineL_get (l : List UInt8) (k i : Nat) (hi : i < 9) : (nineL l k)[i]? = if i < k ∧ i < l.length then l[i]? else some 48 := by
  unfold nineL
  rw [List.getElem?_take, if_pos hi]
  by_cases h : i < k ∧ i < l.length
  · rw [if_pos h, List.getElem?_append_left (by rw [List.length_take]; omega), List.getElem?_take, if_pos h.1]
  · rw [if_neg h, List.getElem?_append_right (by rw [List.length_take]; omega), List.getElem?_replicate, if_pos (by rw [List.length_take]; omega)]
theorem nineL_dig {l : List UInt8} (k : Nat) (h : ∀ c ∈ l.take k, dig c) : allDig (nineL l k) := by
  intro c hc
  have hc2 := List.mem_of_mem_take hc
  rcases List.mem_append.1 hc2 with h1 | h1
  · exact h c h1
  · rw [(List.mem_replicate.1 h1).2]
    unfold dig
    decide
/-- The number of those nine digits. -/
def nano (l : List UInt8) : Nat := vl 0 (nineL l l.length)
theorem vl_bound : ∀ (l : List UInt8) (acc : Nat), allDig l → vl acc l < (acc + 1) * 10 ^ l.length
  | [], acc, _ => by simp [vl]
  | c :: l, acc, h => by
    obtain ⟨h1, h2⟩ := allDig_cons.1 h
    unfold dig at h1
    have := vl_bound l (acc * 10 + (c.toNat - 48)) h2
    rw [vl_cons, List.length_cons, Nat.pow_succ]
    have e : (acc * 10 + (c.toNat - 48) + 1) * 10 ^ l.length ≤ (acc * 10 + 10) * 10 ^ l.length := Nat.mul_le_mul_right _ (by omega)
    have e2 : (acc * 10 + 10) * 10 ^ l.length = (acc + 1) * (10 ^ l.length * 10) := by
      rw [show acc * 10 + 10 = (acc + 1) * 10 by omega, Nat.mul_assoc, Nat.mul_comm 10]
    omega
theorem nano_lt {l : List UInt8} (h : allDig l) : nano l < 1000000000 := by
  have h1 := vl_bound (nineL l l.length) 0 (nineL_dig _ (by rw [List.take_length]; exact h))
  rw [nineL_len] at h1
  unfold nano
  have e : (0 + 1) * 10 ^ 9 = 1000000000 := by decide
  omega
theorem vl_zeros (n acc : Nat) : vl acc (List.replicate n 48) = acc * 10 ^ n := by
  induction n generalizing acc with
  | zero => simp [vl]
  | succ n ih =>
    rw [List.replicate_succ, vl_cons, ih, Nat.pow_succ]
    have : (48 : UInt8).toNat - 48 = 0 := by decide
    rw [this, Nat.add_zero, Nat.mul_assoc, Nat.mul_comm 10]
/-- Noughts behind change nothing. -/
theorem nano_zeros (l : List UInt8) (n : Nat) : nano (l ++ List.replicate n 48) = nano l := by
  unfold nano nineL
  rw [List.take_length, List.take_length, List.append_assoc, List.replicate_append_replicate]
  congr 1
  apply List.ext_getElem?
  intro i
  rw [List.getElem?_take, List.getElem?_take]
  by_cases hi : i < 9
  · rw [if_pos hi, if_pos hi]
    by_cases h : i < l.length
    · rw [List.getElem?_append_left h, List.getElem?_append_left h]
    · rw [List.getElem?_append_right (by omega), List.getElem?_append_right (by omega), List.getElem?_replicate, List.getElem?_replicate, if_pos (by omega), if_pos (by omega)]
  · rw [if_neg hi, if_neg hi]
theorem nano_nil : nano [] = 0 := by decide
/-- Nine digits tell their number. -/
theorem nano_nine {l : List UInt8} (h : l.length = 9) : nano l = vl 0 l := by
  unfold nano nineL
  rw [List.take_length, List.take_left' h]
end Go.Proofs.YtepeehjajhehfaaGreatDoor
namespace Go.Proofs.YtepeehjajhehfaaGreatDoor
open Go.RowKit Go.PlainAid
set_option linter.unusedVariables false

structure RV where
  key : ByteArray
  value : ByteArray
  rest : ByteArray
  v : Int
def RV.val (r : RV) : Value := .tuple #[.agg #[.string r.key, .string r.value], .string r.rest, .int .i64 r.v]
def headBad (h : ByteArray) : Prop := h.size = 0 ∨ bt h 0 = 48 ∨ bt h 0 = 43 ∨ bt h 0 = 45
theorem ext_size (s : ByteArray) (i j : Nat) (hj : j ≤ s.size) : (s.extract i j).size = j - i := by
  rw [ByteArray.size_extract]; omega
/-- A struct of two cells, made and stored. -/
theorem two_blk (w : World) (T : TypeId) (e1 e2 a b : Value) (n : Nat) : Blk ((((w.alloc (.cells #[e1, e2] T)).drewN n).setCell ⟨w.heap.size, 0, none⟩ a).setCell ⟨w.heap.size, 1, none⟩ b) w.heap.size T [a, b] :=
  (((Blk.new w T [e1, e2]).drewN n).set_ 0 a).set_ 1 b
theorem two_below (w : World) (T : TypeId) (e1 e2 a b : Value) (n : Nat) : Below w.heap.size w ((((w.alloc (.cells #[e1, e2] T)).drewN n).setCell ⟨w.heap.size, 0, none⟩ a).setCell ⟨w.heap.size, 1, none⟩ b) :=
  ((below_drewN ((Below.refl _ w).alloc (Nat.le_refl _) _) n).setCell (Nat.le_refl _) a).setCell (Nat.le_refl _) b
theorem empty_yes {h : ByteArray} (h0 : h.size = 0) : h.toList = [] ∧ h.toList.isEmpty = true := by
  have e := Lib.size_eq h
  have : h.toList = [] := by rw [Lib.toList_data]; exact List.eq_nil_of_length_eq_zero (by omega)
  exact ⟨this, by rw [this]; rfl⟩
theorem empty_no {h : ByteArray} (h0 : ¬ h.size = 0) : ¬ h.toList = [] ∧ h.toList.isEmpty = false := by
  have e := Lib.size_eq h
  have : ¬ h.toList = [] := by rw [Lib.toList_data]; intro hh; rw [hh] at e; exact h0 e
  exact ⟨this, by cases hl : h.toList with
    | nil => exact absurd hl this
    | cons x l => rfl⟩


def cutI (i : Int) (s : ByteArray) : Value := cutV (UInt8.ofNat i.toNat) s
theorem specCutI (s : ByteArray) (i : Int) (w : World) (hs : s.size ≤ 4611686018427387904) (hi : 0 ≤ i ∧ i < 256) :
    Calls Tryz.prog 44 #[.string s, .int .u8 i] w (Quietly (cutI i s) w) := by
  have h := specCut s (UInt8.ofNat i.toNat) w hs
  have e : (((UInt8.ofNat i.toNat).toNat : Nat) : Int) = i := by
    rw [UInt8.toNat_ofNat']
    omega
  rw [e] at h
  exact h
theorem dec_yes (h : ByteArray) (w : World) (hs : h.size ≤ 4611686018427387904) (hd : DecOk h) : Calls Tryz.prog 34 #[.string h] w fun e w' => e = .returned (.tuple #[.int .i64 (vl 0 h.data.toList : Nat), .bool true]) ∧ w = w' := by
  refine (decimal_any h w hs).mono ?_
  rintro e w' ⟨⟨_, rfl⟩ | ⟨h2, _⟩, rfl⟩
  · exact ⟨rfl, rfl⟩
  · exact absurd hd h2
theorem dec_no (h : ByteArray) (w : World) (hs : h.size ≤ 4611686018427387904) (hd : ¬ DecOk h) : Calls Tryz.prog 34 #[.string h] w fun e w' => e = .returned (.tuple #[.int .i64 0, .bool false]) ∧ w = w' := by
  refine (decimal_any h w hs).mono ?_
  rintro e w' ⟨⟨h2, _⟩ | ⟨_, rfl⟩, rfl⟩
  · exact absurd h2 hd
  · exact ⟨rfl, rfl⟩
theorem digs_yes (h : ByteArray) (w : World) (hs : h.size ≤ 4611686018427387904) (hd : DigOk h) : Calls Tryz.prog 56 #[.string h] w fun e w' => e = .returned (.bool true) ∧ w = w' := by
  refine (digits_any h w hs).mono ?_
  rintro e w' ⟨⟨_, rfl⟩ | ⟨h2, _⟩, rfl⟩
  · exact ⟨rfl, rfl⟩
  · exact absurd hd h2
theorem digs_no (h : ByteArray) (w : World) (hs : h.size ≤ 4611686018427387904) (hd : ¬ DigOk h) : Calls Tryz.prog 56 #[.string h] w fun e w' => e = .returned (.bool false) ∧ w = w' := by
  refine (digits_any h w hs).mono ?_
  rintro e w' ⟨⟨h2, _⟩ | ⟨_, rfl⟩, rfl⟩
  · exact absurd h2 hd
  · exact ⟨rfl, rfl⟩




/-- A record, laid out. -/
structure IsRec (s h : ByteArray) (n : Nat) (m k v r : ByteArray) : Prop where
  cut : fc 32 s < s.size
  hd : h = s.extract 0 (fc 32 s)
  ok : ¬ headBad h
  dec : DecOk h
  num : n = vl 0 h.data.toList
  le : n ≤ s.size
  gt : h.size + 1 < n
  nl : bt s (n - 1) = 10
  mid : m = s.extract (h.size + 1) (n - 1)
  eq : fc 61 m < m.size
  pos : 0 < fc 61 m
  key : k = m.extract 0 (fc 61 m)
  val : v = m.extract (fc 61 m + 1) m.size
  rest : r = s.extract n s.size
end Go.Proofs.YtepeehjajhehfaaGreatDoor
namespace Go.Proofs.YtepeehjajhehfaaGreatDoor
open Go.RowKit Go.PlainAid
set_option linter.unusedVariables false

theorem timInfo : (Tryz.prog.info? 71).map (·.size) = some 2 := by kernel_rfl
theorem and_low (n : Int) (h1 : 0 ≤ n) (h2 : n < 1000000000) : bits .and .u64 n 9223372036854775808 = 0 ∧ bits .and .u64 n 1073741823 = n := by
  constructor
  · rw [u64_and n 9223372036854775808 h1 (by omega) (by omega) (by omega)]
    have e := nat_bit 63 n.toNat
    have e2 : (2 : Nat) ^ 63 = 9223372036854775808 := by decide
    rw [e2] at e
    rw [show ((9223372036854775808 : Int)).toNat = 9223372036854775808 from rfl, e]
    have : n.toNat / 9223372036854775808 = 0 := Nat.div_eq_of_lt (by omega)
    rw [this]
    rfl
  · rw [u64_and n 1073741823 h1 (by omega) (by omega) (by omega)]
    have e := Nat.and_two_pow_sub_one_eq_mod n.toNat 30
    have e2 : (2 : Nat) ^ 30 = 1073741824 := by decide
    rw [e2] at e
    rw [show ((1073741823 : Int)).toNat = 1073741824 - 1 from rfl, e]
    omega
theorem wrap_i64 (n : Int) : IntKind.i64.wrap n = wrap64 n := by rw [IntKind.wrap_i64]; unfold wrap64; omega

set_option maxRecDepth 20000 in
set_option maxHeartbeats 400000 in
theorem unixTime_ok (s n x : Int) (w : World) (h1 : 0 ≤ n) (h2 : n < 1000000000) (hx : IntKind.i64.wrap (s + 62135596800) = x) :
    Calls Tryz.prog 108 #[.int .i64 s, .int .i32 n] w fun e w' => e = .returned (.agg #[.int .u64 n, .int .i64 x]) ∧ Below w.heap.size w w' := by
  have u1 : IntKind.u64.wrap n = n := IntWalk.u64_in _ ⟨by omega, by omega⟩
  go_enter Tryz.func108, Tryz.ntmps108
  go_wp2
  refine bodyPost_ret (results_cell_row rfl _ _ w.heap.size _ #[_, _] _ _ rfl (Blk.new w _ [_, _]) Tryz.underlying71 rfl timInfo) rfl ?_
  exact ⟨rfl, (Below.refl _ w).alloc (Nat.le_refl _) _⟩

def TimPost (n x : Int) (w : World) (e : Ending) (w' : World) : Prop := e = .returned (.agg #[.int .u64 n, .int .i64 x]) ∧ Below w.heap.size w w'
theorem zero_blk (w w1 : World) (T : TypeId) (a b : Value) (h : Below (w.alloc (.cells #[a, b] T)).heap.size (w.alloc (.cells #[a, b] T)) w1) : Blk w1 w.heap.size T [a, b] ∧ Below w.heap.size w w1 :=
  ⟨(Blk.new w T [a, b]).below h (Blk.new w T [a, b]).lt, ((Below.refl _ w).alloc (Nat.le_refl _) _).trans (h.mono (Nat.le_of_lt (Blk.new w T [a, b]).lt))⟩

set_option maxRecDepth 20000 in
set_option maxHeartbeats 400000 in
theorem unix_pos (s n x : Int) (w : World) (h1 : 0 ≤ n) (h2 : n < 1000000000) (hx : IntKind.i64.wrap (s + 62135596800) = x) :
    Calls Tryz.prog 54 #[.int .i64 s, .int .i64 n] w (TimPost n x w) := by
  have u1 : IntKind.i32.wrap n = n := IntWalk.i32_in _ ⟨by omega, by omega⟩
  have k1 : ¬ n < 0 := by omega
  have k2 : ¬ 1000000000 ≤ n := by omega
  have HX := Lib.hid hx
  clear hx
  go_enter Tryz.func54, Tryz.ntmps54
  go_wp2_with (
    go_at_call 108
    refine (unixTime_ok s n x _ h1 h2 HX.out).mono ?_
    rintro e w1 ⟨rfl, hb1⟩
    obtain ⟨HB0, HB1⟩ := zero_blk _ _ _ _ _ hb1
    have c0 : w1.cell? ⟨w.heap.size, 0, none⟩ = some (.int .u64 0) := by rw [HB0.cell]; rfl
    have c1 : w1.cell? ⟨w.heap.size, 1, none⟩ = some (.int .i64 0) := by rw [HB0.cell]; rfl
    have f0 := HB0.frozen 0
    have f1 := HB0.frozen 1
    replace HB0 := Lib.hid HB0
    replace HB1 := Lib.hid HB1
    clear hb1)
  refine bodyPost_ret (results_cell_row rfl _ _ w.heap.size _ #[_, _] _ _ rfl ((HB0.out.set_ 0 _).set_ 1 _) Tryz.underlying71 rfl timInfo) rfl ?_
  exact ⟨rfl, (HB1.out.setCell (Nat.le_refl _) _).setCell (Nat.le_refl _) _⟩
set_option maxRecDepth 20000 in
set_option maxHeartbeats 400000 in
theorem unixM (n x s : Int) (w : World) (h1 : 0 ≤ n) (h2 : n < 1000000000) (hx : wrap64 (x + -62135596800) = s) :
    Calls Tryz.prog 82 #[.agg #[.int .u64 n, .int .i64 x]] w fun e w' => e = .returned (.int .i64 s) ∧ w' = w.alloc (.cells #[.int .u64 n, .int .i64 x] 71) := by
  obtain ⟨a1, a2⟩ := and_low n h1 h2
  go_enter Tryz.func82, Tryz.ntmps82
  go_wp2
  go_ret
  exact ⟨by rw [← hx]; rfl, rfl⟩
set_option maxRecDepth 20000 in
set_option maxHeartbeats 400000 in
theorem nanoM (n x : Int) (w : World) (h1 : 0 ≤ n) (h2 : n < 1000000000) :
    Calls Tryz.prog 83 #[.agg #[.int .u64 n, .int .i64 x]] w fun e w' => e = .returned (.int .i64 n) ∧ w' = w.alloc (.cells #[.int .u64 n, .int .i64 x] 71) := by
  obtain ⟨a1, a2⟩ := and_low n h1 h2
  have u1 : IntKind.i32.wrap n = n := IntWalk.i32_in _ ⟨by omega, by omega⟩
  have u2 : IntKind.i64.wrap n = n := IntWalk.i64_in _ (by omega)
  go_enter Tryz.func83, Tryz.ntmps83
  go_wp2
  go_ret
  exact ⟨rfl, rfl⟩
end Go.Proofs.YtepeehjajhehfaaGreatDoor
namespace Go.Proofs.YtepeehjajhehfaaGreatDoor
open Go.ChangeShapes Go.WideShapes Go.RowKit

theorem lt_of_cell' {w : World} {p : Addr} {v : Value} (h : w.cell? p = some v) : p.block < w.heap.size := by
  rcases Nat.lt_or_ge p.block w.heap.size with h1 | h1
  · exact h1
  · simp [World.cell?, Array.getElem?_eq_none h1] at h
/-- What a sentinel's variable holds. -/
def errV (a : Addr) : Value := .iface 221 (.pointer (some a))
/-- A sentinel's variable: it holds a pointer to a whole block; both lie below B. -/
structure Err (B : Nat) (w : World) (g : Nat) (a : Addr) : Prop where
  cell : w.cell? ⟨g, 0, none⟩ = some (errV a)
  blk : ∃ c t, w.heap[a.block]? = some (.cells c t (0, 0))
  lg : g < B
  la : a.block < B
theorem Err.below {B C : Nat} {w w' : World} {g : Nat} {a : Addr} (h : Err B w g a) (hb : Below C w w') (hB : B ≤ C) : Err B w' g a := by
  obtain ⟨c, t, hc⟩ := h.blk
  exact ⟨(hb.cell (p := ⟨g, 0, none⟩) (Nat.lt_of_lt_of_le h.lg hB)).trans h.cell, ⟨c, t, (hb.block a.block (Nat.lt_of_lt_of_le h.la hB)).trans hc⟩, h.lg, h.la⟩
/-- .. below a later heap's size. -/
theorem Err.more {w w' : World} {g : Nat} {a : Addr} (h : Err w.heap.size w g a) (hb : Below w.heap.size w w') : Err w'.heap.size w' g a := by
  have h1 := h.below hb (Nat.le_refl _)
  exact ⟨h1.cell, h1.blk, Nat.lt_of_lt_of_le h1.lg hb.size, Nat.lt_of_lt_of_le h1.la hb.size⟩
end Go.Proofs.YtepeehjajhehfaaGreatDoor
namespace Go.Proofs.YtepeehjajhehfaaGreatDoor
open Go.RowKit Go.PlainAid
set_option linter.unusedVariables false

end Go.Proofs.YtepeehjajhehfaaGreatDoor
namespace Go.Proofs.YtepeehjajhehfaaGreatDoor
open Go.RowKit Go.PlainAid
set_option linter.unusedVariables false

end Go.Proofs.YtepeehjajhehfaaGreatDoor
namespace Go.Proofs.YtepeehjajhehfaaGreatDoor
open Go.RowKit Go.PlainAid
set_option linter.unusedVariables false

theorem results_row_tmp1 {P : Program} {fn : Func} {p u : Tmp} {ty : TypeId} (h : fn.results = #[.cell p ty, .tmp u]) (tmps : Array Value) (w : World) (g : Nat) (t : TypeId) (xs : List Value) (d : TypeDesc)
    (hp : tmps.getD p undef = .pointer (some ⟨g, 0, none⟩)) (hg : Blk w g t xs)
    (hu : P.underlying ty = some d) (hd : (match d with | .struct _ | .array _ _ => true | _ => false) = true) (hi : (P.info? ty).map (·.size) = some xs.length) :
    (results fn tmps).run P w = .ok (.tuple #[.agg xs.toArray, tmps.getD u undef]) w := by
  have hp' : tmps[p]?.getD undef = .pointer (some ⟨g, 0, none⟩) := by simpa using hp
  simp [results, h, hp', asAddr, run_loadVar_row w g t ty xs.toArray (0, 0) d hg hu hd (by simpa using hi)]
end Go.Proofs.YtepeehjajhehfaaGreatDoor
namespace Go.Proofs.YtepeehjajhehfaaGreatDoor
open Go.RowKit Go.PlainAid
set_option linter.unusedVariables false

end Go.Proofs.YtepeehjajhehfaaGreatDoor
namespace Go.Proofs.YtepeehjajhehfaaGreatDoor
open Go.RowKit Go.PlainAid
set_option linter.unusedVariables false

end Go.Proofs.YtepeehjajhehfaaGreatDoor
namespace Go.Proofs.YtepeehjajhehfaaGreatDoor
open Go.RowKit Go.PlainAid
set_option linter.unusedVariables false

end Go.Proofs.YtepeehjajhehfaaGreatDoor
namespace Go.Proofs.YtepeehjajhehfaaGreatDoor
open Go.RowKit Go.PlainAid
set_option linter.unusedVariables false

theorem app_list (a b : ByteArray) : (a ++ b).data.toList = a.data.toList ++ b.data.toList := by simp
theorem findIdx_pre (l r : List UInt8) (c : UInt8) (h : ∀ x ∈ l, x ≠ c) : (l ++ c :: r).findIdx (· == c) = l.length := by
  induction l with
  | nil => simp [List.findIdx_cons]
  | cons x l ih =>
    have hx : (x == c) = false := by simpa using h x (by simp)
    rw [List.cons_append, List.findIdx_cons, hx, ih (fun y hy => h y (List.mem_cons_of_mem _ hy))]
    simp
theorem recR_list (k v : ByteArray) : (recR k v).data.toList = 32 :: (k.data.toList ++ 61 :: (v.data.toList ++ [10])) := by
  unfold recR
  simp only [app_list]
  simp
/-- A written record, with something behind it. -/
structure Wrote (s : ByteArray) (N : Nat) (k v : ByteArray) : Prop where
  eq : s = numB N ++ recR k v
  len : (numL N).length + (recR k v).size = N
theorem Wrote.size {s : ByteArray} {N : Nat} {k v : ByteArray} (h : Wrote s N k v) : s.size = N := by
  rw [h.eq, ByteArray.size_append, numB_size]; exact h.len
theorem Wrote.list {s : ByteArray} {N : Nat} {k v b : ByteArray} (h : Wrote s N k v) : (s ++ b).data.toList = numL N ++ 32 :: ((k.data.toList ++ 61 :: (v.data.toList ++ [10])) ++ b.data.toList) := by
  rw [app_list, h.eq, app_list, recR_list]
  simp [numB]
theorem Wrote.fc {s : ByteArray} {N : Nat} {k v b : ByteArray} (h : Wrote s N k v) : fc 32 (s ++ b) = (numL N).length := by
  unfold Go.Proofs.YtepeehjajhehfaaGreatDoor.fc
  rw [h.list (b := b)]
  refine findIdx_pre _ _ _ fun x hx e => ?_
  have := numL_dig N x hx
  unfold dig at this
  rw [e] at this
  have e2 : (32 : UInt8).toNat = 32 := rfl
  omega
theorem Wrote.head {s : ByteArray} {N : Nat} {k v b : ByteArray} (h : Wrote s N k v) : (s ++ b).extract 0 (Go.Proofs.YtepeehjajhehfaaGreatDoor.fc 32 (s ++ b)) = numB N := by
  apply ba_ext
  rw [h.fc, Lib.extract_data, h.list (b := b)]
  simp [numB]
theorem Wrote.rest {s : ByteArray} {N : Nat} {k v b : ByteArray} (h : Wrote s N k v) : (s ++ b).extract N (s ++ b).size = b := by
  apply ba_ext
  have e := h.size
  have e2 : s.data.toList.length = N := by rw [← Lib.size_eq]; exact e
  rw [Lib.extract_data, ByteArray.size_append, app_list, List.drop_left' e2]
  rw [e, Nat.add_sub_cancel_left, Lib.size_eq, List.take_length]
theorem numB_list (N : Nat) : (numB N).data.toList = numL N := by simp [numB]
/-- What is read is the written record's number; what is behind it is behind it. -/
theorem Wrote.read {s h : ByteArray} {N n : Nat} {k v b m k' v' r : ByteArray} (H : Wrote s N k v) (I : IsRec (s ++ b) h n m k' v' r) : r = b := by
  have e1 : h = numB N := I.hd.trans H.head
  have e2 : n = N := by rw [I.num, e1, numB_list, numL_vl]
  rw [I.rest, e2, H.rest]

end Go.Proofs.YtepeehjajhehfaaGreatDoor
namespace Go.Proofs.YtepeehjajhehfaaGreatDoor
open Go.RowKit Go.PlainAid
set_option linter.unusedVariables false


/-! ### ZZTime -/
/-! ### impl.ReadTime -/
/-! ### The ways joined -/
open Classical in
/-- What the program answers of a time, cut at its point: h, t. -/
noncomputable def timP (h t : ByteArray) : Option (Int × Int) :=
  match Lib.parseIntB 64 h.data.toList with
  | .ok v => if t.size = 0 then some (v, 0) else if ¬ allDig t.data.toList then none else if bt h 0 = 45 ∧ 0 < nano t.data.toList then some (wrap64 (v - 1), 1000000000 - ((nano t.data.toList : Nat) : Int)) else some (v, ((nano t.data.toList : Nat) : Int))
  | _ => none
theorem back (v : Int) (h : -9223372036854775808 ≤ v ∧ v ≤ 9223372036854775807) : wrap64 (IntKind.i64.wrap (v + 62135596800) + -62135596800) = v := by
  rw [wrap_i64]; unfold wrap64; omega
end Go.Proofs.YtepeehjajhehfaaGreatDoor
