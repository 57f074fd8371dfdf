/- Walks of the check sums. -/
import Derived.Test.YtepeehjajhehfaaGreatDoorText
import Derived.Test.YtepeehjajhehfaaGreatDoorRows
import Derived.Test.YtepeehjajhehfaaGreatDoorW
namespace Go.Proofs.YtepeehjajhehfaaGreatDoor
open Go.RowKit

def sumU (bs : List UInt8) : Nat → Int
  | 0 => 0
  | k + 1 => sumU bs k + (if 148 ≤ k ∧ k < 156 then 32 else byt bs k)
def sgn (x : Int) : Int := if x < 128 then x else x - 256
def sumS (bs : List UInt8) : Nat → Int
  | 0 => 0
  | k + 1 => sumS bs k + (if 148 ≤ k ∧ k < 156 then 32 else sgn (byt bs k))
theorem sumU_bd (bs : List UInt8) (k : Nat) : 0 ≤ sumU bs k ∧ sumU bs k ≤ 255 * k := by
  induction k with
  | zero => simp [sumU]
  | succ k ih =>
    have := byt_lo bs k
    have := byt_hi bs k
    unfold sumU
    split <;> omega
theorem sumS_bd (bs : List UInt8) (k : Nat) : -128 * k ≤ sumS bs k ∧ sumS bs k ≤ 127 * k := by
  induction k with
  | zero => simp [sumS]
  | succ k ih =>
    have := byt_lo bs k
    have := byt_hi bs k
    unfold sumS sgn
    split
    · omega
    · split <;> omega
theorem sumU_in (bs : List UInt8) (k : Nat) (h : 148 ≤ k ∧ k < 156) : sumU bs (k + 1) = sumU bs k + 32 := by rw [sumU, if_pos h]
theorem sumU_out (bs : List UInt8) (k : Nat) (h : ¬ (148 ≤ k ∧ k < 156)) : sumU bs (k + 1) = sumU bs k + byt bs k := by rw [sumU, if_neg h]
theorem sumS_in (bs : List UInt8) (k : Nat) (h : 148 ≤ k ∧ k < 156) : sumS bs (k + 1) = sumS bs k + 32 := by rw [sumS, if_pos h]
theorem sumS_out (bs : List UInt8) (k : Nat) (h : ¬ (148 ≤ k ∧ k < 156)) : sumS bs (k + 1) = sumS bs k + sgn (byt bs k) := by rw [sumS, if_neg h]
theorem i8_byt (bs : List UInt8) (k : Nat) : IntKind.i8.wrap (byt bs k) = sgn (byt bs k) := by
  have := byt_lo bs k
  have := byt_hi bs k
  unfold sgn
  simp only [IntKind.wrap, IntKind.bits, IntKind.signed]
  simp
  split <;> omega
theorem sgn_bd (bs : List UInt8) (k : Nat) : -128 ≤ sgn (byt bs k) ∧ sgn (byt bs k) ≤ 127 := by
  have := byt_lo bs k
  have := byt_hi bs k
  unfold sgn
  split <;> omega

set_option maxRecDepth 20000 in
set_option maxHeartbeats 400000 in
theorem specSums (b off : Nat) (N c : Nat) (hN : N ≤ 512) (bs : List UInt8) (w : World)
    (hc : ∀ i, i < N → w.cell? ⟨b, off + i, none⟩ = some (.int .u8 (byt bs i))) :
    Calls Tryz.prog 60 #[.slice (some ⟨b, off, none⟩) N c] w fun e w' => e = .returned (.tuple #[.int .i64 (sumU bs N), .int .i64 (sumS bs N)]) ∧ w = w' := by
  have HC := Lib.hid hc
  clear hc
  go_enter Tryz.func60, Tryz.ntmps60
  go_wp2
  go_loop [4, 5, 10] (fun s4 s5 s10 => ∃ k : Nat, k ≤ N ∧ s10 = .int .i64 k ∧ s4 = .int .i64 (sumU bs k) ∧ s5 = .int .i64 (sumS bs k)) (fun _ _ i => N - (intOf i).toNat)
  case atStart => exact ⟨0, by omega, rfl, rfl, rfl⟩
  case round =>
    obtain ⟨k, hk, rfl, rfl, rfl⟩ := hrel
    by_cases hlt : k < N
    · obtain ⟨h1, h1'⟩ := sumU_bd bs k
      obtain ⟨h2, h2'⟩ := sumS_bd bs k
      have h3 := byt_lo bs k
      have h4 := byt_hi bs k
      have hcell := HC.out k hlt
      have h5 := i8_byt bs k
      obtain ⟨h6, h6'⟩ := sgn_bd bs k
      by_cases hin : 148 ≤ k ∧ k < 156
      · have e1 := Lib.hid (sumU_in bs k hin)
        have e2 := Lib.hid (sumS_in bs k hin)
        obtain ⟨ha, hb⟩ := hin
        go_wp2
        go_round
        case rel => exact ⟨k + 1, by omega, by go_num, val_i64 e1.out.symm, val_i64 e2.out.symm⟩
        case measure => simp [intOf]; omega
      · have e1 := Lib.hid (sumU_out bs k hin)
        have e2 := Lib.hid (sumS_out bs k hin)
        rcases (show k < 148 ∨ 156 ≤ k from by omega) with hi | hi
        all_goals
          clear hin
          go_wp2
          go_round
          case rel => exact ⟨k + 1, by omega, by go_num, val_i64 e1.out.symm, val_i64 e2.out.symm⟩
          case measure => simp [intOf]; omega
    · obtain rfl : k = N := by omega
      go_wp2
      go_ret2
      exact ⟨rfl, rfl⟩

set_option maxRecDepth 20000 in
set_option maxHeartbeats 400000 in
theorem compute (b : Nat) (N : Nat) (hN : N = 512) (bs : List UInt8) (w : World)
    (hc : ∀ i, i < N → w.cell? ⟨b, i, none⟩ = some (.int .u8 (byt bs i))) :
    Calls Tryz.prog 65 #[.pointer (some ⟨b, 0, none⟩)] w (Quietly (.tuple #[.int .i64 (sumU bs N), .int .i64 (sumS bs N)]) w) := by
  have HC := Lib.hid hc
  have HN := Lib.hid hN
  clear hc hN
  go_enter Tryz.func65, Tryz.ntmps65
  go_wp2
  go_loopw [2, 3, 7] (fun s4 s5 s10 wr => ∃ k : Nat, k ≤ N ∧ s10 = .int .i64 k ∧ s4 = .int .i64 (sumU bs k) ∧ s5 = .int .i64 (sumS bs k) ∧ ∃ n, wr = w.drewN n) (fun _ _ i _ => N - (intOf i).toNat)
  case atStart => exact ⟨0, by omega, rfl, rfl, rfl, 0, rfl⟩
  case round =>
    obtain ⟨k, hk, rfl, rfl, rfl, n, rfl⟩ := hrel
    by_cases hlt : k < N
    · have hlt' : (k : Int) < 512 := by have := HN.out; omega
      obtain ⟨h1, h1'⟩ := sumU_bd bs k
      obtain ⟨h2, h2'⟩ := sumS_bd bs k
      have h3 := byt_lo bs k
      have h4 := byt_hi bs k
      have hcell := HC.out k hlt
      have h5 := i8_byt bs k
      obtain ⟨h6, h6'⟩ := sgn_bd bs k
      by_cases hin : 148 ≤ k ∧ k < 156
      · have e1 := Lib.hid (sumU_in bs k hin)
        have e2 := Lib.hid (sumS_in bs k hin)
        obtain ⟨ha, hb⟩ := hin
        go_wp2
        go_quiet (fail)
        go_wp2
        go_roundw
        case rel => exact ⟨k + 1, by omega, by go_num, val_i64 e1.out.symm, val_i64 e2.out.symm, _, rfl⟩
        case measure => simp [intOf]; omega
      · have e1 := Lib.hid (sumU_out bs k hin)
        have e2 := Lib.hid (sumS_out bs k hin)
        rcases (show k < 148 ∨ 156 ≤ k from by omega) with hi | hi
        all_goals
          clear hin
          go_wp2
          go_quiet (fail)
          go_wp2
          go_roundw
          case rel => exact ⟨k + 1, by omega, by go_num, val_i64 e1.out.symm, val_i64 e2.out.symm, _, rfl⟩
          case measure => simp [intOf]; omega
    · obtain rfl : k = N := by omega
      have hlt' : ¬ (k : Int) < 512 := by have := HN.out; omega
      go_wp2
      go_ret2
      exact ⟨rfl, _, rfl⟩

/-- A block of 512 bytes of which the first are those of bs. -/
def padded (bs : List UInt8) : List UInt8 := splice (zbs 512) 0 (bs.take 512)
theorem length_padded (bs : List UInt8) : (padded bs).length = 512 := by
  unfold padded
  rw [length_splice]
  · rw [length_zbs]
  · rw [length_zbs, List.length_take]; omega

theorem zero512 (w : World) : (zeroValue 118).run Tryz.prog w = .ok (.agg (bys (zbs 512)).toArray) w := by kernel_rfl

set_option maxRecDepth 20000 in
set_option maxHeartbeats 400000 in
theorem zzBlock (A : Option Addr) (n c B : Nat) (bs : List UInt8) (w : World) (hn : bs.length = n) (hr : RB w B A bs) (hB : B ≤ w.heap.size) :
    Calls Tryz.prog 49 #[.slice A n c] w fun e w' => e = .returned (.pointer (some ⟨w.heap.size, 0, none⟩)) ∧ Blk w' w.heap.size 118 (bys (padded bs)) ∧ Below w.heap.size w w' := by
  have HN := Lib.hid hn
  obtain ⟨Z, hZ⟩ : ∃ Z, Z = bys (zbs 512) := ⟨_, rfl⟩
  have hz := zero512
  rw [← hZ] at hz
  have HB : Hid (Blk (w.alloc (.cells Z.toArray 118)) w.heap.size 118 (bys (zbs 512))) := by rw [← hZ]; exact Blk.new _ _ _
  have HR := Lib.hid (hr.alloc hB (.cells Z.toArray 118))
  have HW : Hid (Below w.heap.size w (w.alloc (.cells Z.toArray 118))) := (Below.refl _ _).alloc (Nat.le_refl _) _
  have HL : Hid (0 + 512 ≤ (zbs 512).length) := by show _ ≤ _; rw [length_zbs]; omega
  clear hn hZ hr
  go_enter Tryz.func49, Tryz.ntmps49
  go_wp2_with (refine wpList_copy_bytes (o := ⟨some 6, _, _, _, _, _⟩) _ rfl (.tmp 4) (.tmp 5) 35 35 rfl 5 Tryz.underlying35 u8size w.heap.size 0 512 512 n c A rfl rfl _ bs _ B HB.out HN.out HR.out HL.out ?_)
  intro w1 h1 h2 h3
  go_wp2
  go_ret
  exact ⟨rfl, h1.out, HW.out.grown h2 (by simp) (by simp)⟩

end Go.Proofs.YtepeehjajhehfaaGreatDoor
