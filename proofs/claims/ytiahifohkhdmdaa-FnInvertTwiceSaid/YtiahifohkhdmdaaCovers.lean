/- The walk of laws.covers: how many pieces have each place. -/
import Derived.Test.YtiahifohkhdmdaaR
import Derived.Test.YtiahifohkhdmdaaConv
namespace Go.Proofs.Ytiahifohkhdmdaa
open Go.RowKit

/-- How many of the first k pieces have place i. -/
def cov (ps : List (Int × Int)) : Nat → Nat → Int
  | 0, _ => 0
  | k + 1, i => cov ps k i + if po ps k ≤ i ∧ (i : Int) < po ps k + pl ps k then 1 else 0
theorem cov_bd (ps : List (Int × Int)) (k i : Nat) : 0 ≤ cov ps k i ∧ cov ps k i ≤ k := by
  induction k with
  | zero => simp [cov]
  | succ k ih =>
    unfold cov
    split <;> omega
/-- The same while piece k is being laid, up to place x. -/
def covIn (ps : List (Int × Int)) (k a x j : Nat) : Int := cov ps k j + if a ≤ j ∧ j < x then 1 else 0
theorem covIn_start (ps : List (Int × Int)) (k a n : Nat) : ints n (cov ps k) = ints n (covIn ps k a a) :=
  ints_congr fun i _ => by unfold covIn; rw [if_neg (by omega)]; omega
theorem covIn_end (ps : List (Int × Int)) (k a l n : Nat) (ha : po ps k = a) (hl : pl ps k = l) : ints n (covIn ps k a (a + l)) = ints n (cov ps (k + 1)) :=
  ints_congr fun i _ => by
    rw [covIn, cov, ha, hl]
    by_cases h : a ≤ i ∧ i < a + l
    · rw [if_pos h, if_pos (by omega)]
    · rw [if_neg h, if_neg (by omega)]
theorem covIn_set (ps : List (Int × Int)) (k a x n : Nat) (hx : a ≤ x) : (ints n (covIn ps k a x)).set x (.int .i64 (cov ps k x + 1)) = ints n (covIn ps k a (x + 1)) := by
  rw [ints_set]
  refine ints_congr fun i _ => ?_
  by_cases h : i = x
  · subst h
    rw [if_pos rfl, covIn, if_pos (by omega)]
  · rw [if_neg h, covIn, covIn]
    congr 1
    by_cases h2 : a ≤ i ∧ i < x
    · rw [if_pos h2, if_pos (by omega)]
    · rw [if_neg h2, if_neg (by omega)]
theorem covIn_at (ps : List (Int × Int)) (k a x : Nat) : covIn ps k a x x = cov ps k x := by
  rw [covIn, if_neg (by omega)]; omega

theorem intinfo : (Try.prog.info? 3).map (fun i => (i.zero, i.size, i.bytes)) = some (some (.int .i64 0), 1, 8) := by kernel_rfl

/-- The pieces are within a size. -/
def Within (ps : List (Int × Int)) (size : Int) : Prop := ∀ k, k < ps.length → 0 ≤ po ps k ∧ 0 ≤ pl ps k ∧ po ps k + pl ps k ≤ size

set_option maxRecDepth 20000 in
set_option maxHeartbeats 2000000 in
theorem covers_any (A : Option Addr) (n c B size : Nat) (ps : List (Int × Int)) (w : World) (hn : ps.length = n) (hr : RC w B A (pcs ps)) (hB : B ≤ w.heap.size) (hbig : n ≤ 2147483647) (hin : Within ps size) (hs : size ≤ 34359738368) :
    Calls Try.prog 20 #[.slice A n c, .int .i64 size] w fun e w' =>
      e = .returned (.tuple #[.slice (some ⟨w.heap.size, 0, none⟩) size size, .bool true]) ∧ Blk w' w.heap.size 3 (ints size (cov ps n)) ∧ Below w.heap.size w w' := by
  have HN := Lib.hid hn
  have HR := Lib.hid hr
  have HI := Lib.hid hin
  clear hn hr hin
  go_enter Try.func20, Try.ntmps20
  go_wp2_with (refine wpList_make_blk _ (o := ⟨some 11, _, _, _, _, _⟩) rfl _ _ _ rfl 3 _ 8 Try.underlying36 intinfo rfl _ _ _ _ size rfl rfl rfl rfl (by omega) (by omega) ?_)
  intro w1 b1 g1 z1
  have HB1 : Hid (Blk w1 w.heap.size 3 (ints size (cov ps 0))) := by rw [show ints size (cov ps 0) = reps size (.int .i64 0) from (reps_ints size).symm]; exact b1
  have HW1 : Hid (Below w.heap.size w w1) := grownBy_below g1 (Nat.le_refl _) (by simp)
  clear b1 g1 z1
  go_wp2
  go_loopw [14] (fun i wr => ∃ k : Nat, k ≤ n ∧ i = .int .i64 k ∧ Blk wr w.heap.size 3 (ints size (cov ps k)) ∧ Below w.heap.size w wr) (fun i _ => n - (intOf i).toNat)
  case atStart => exact ⟨0, by omega, rfl, HB1.out, HW1.out⟩
  case round =>
    obtain ⟨k, hk, rfl, hblk, hb⟩ := hrel
    have HBL := Lib.hid hblk
    have HB := Lib.hid hb
    have hsz := hblk.lt
    by_cases hlt : k < n
    · obtain ⟨b, off, rfl, _, hc1, hc2⟩ := (HR.out.below (hb.mono hB)).piece (k := k) (by rw [HN.out]; exact hlt)
      obtain ⟨i1, i2, i3⟩ := HI.out k (by rw [HN.out]; exact hlt)
      obtain ⟨a, ha⟩ : ∃ a : Nat, po ps k = a := ⟨(po ps k).toNat, by omega⟩
      obtain ⟨l, hl⟩ : ∃ l : Nat, pl ps k = l := ⟨(pl ps k).toNat, by omega⟩
      rw [ha] at hc1 i1 i3
      rw [hl] at hc2 i2 i3
      have HA := Lib.hid ha
      have HL := Lib.hid hl
      have HP : Hid (Blk (wr.alloc (.cells #[.int .i64 a, .int .i64 l] 32)) wr.heap.size 32 [.int .i64 a, .int .i64 l]) := Blk.new _ _ _
      have HB2 : Hid (Blk (wr.alloc (.cells #[.int .i64 a, .int .i64 l] 32)) w.heap.size 3 (ints size (covIn ps k a a))) := by rw [← covIn_start]; exact hblk.alloc _
      have HW2 := Lib.hid (HB.out.alloc (o := .cells #[.int .i64 a, .int .i64 l] 32) HB.out.size)
      clear ha hl hblk hb
      go_wp2
      obtain ⟨gp, hgp⟩ : ∃ gp, gp = wr.heap.size := ⟨_, rfl⟩
      obtain ⟨wo, hwo⟩ : ∃ wo, wo = wr.alloc (.cells #[.int .i64 a, .int .i64 l] 32) := ⟨_, rfl⟩
      rw [← hwo] at HP HB2 HW2 ⊢
      rw [← hgp] at HP ⊢
      have HNE : Hid (gp ≠ w.heap.size) := by show _ ≠ _; omega
      clear hwo hgp hc1 hc2
      go_loopw [9] (fun v wi => ∃ x : Nat, a ≤ x ∧ x ≤ a + l ∧ v = .int .i64 x ∧ Blk wi w.heap.size 3 (ints size (covIn ps k a x)) ∧ Blk wi gp 32 [.int .i64 a, .int .i64 l] ∧ Below w.heap.size w wi) (fun v _ => a + l - (intOf v).toNat)
      case atStart => exact ⟨a, by omega, by omega, rfl, HB2.out, HP.out, HW2.out⟩
      case round =>
        obtain ⟨x, hx1, hx2, rfl, hbx, hpx, hwx⟩ := hrel
        have hp1 : wr.cell? ⟨gp, 0, none⟩ = some (.int .i64 a) := by rw [hpx.cell]; rfl
        have hp2 : wr.cell? ⟨gp, 1, none⟩ = some (.int .i64 l) := by rw [hpx.cell]; rfl
        have HBX := Lib.hid hbx
        have HPX := Lib.hid hpx
        have HWX := Lib.hid hwx
        obtain ⟨c1, c2⟩ := cov_bd ps k x
        by_cases hlt2 : x < a + l
        · have hcx : wr.cell? ⟨w.heap.size, x, none⟩ = some (.int .i64 (cov ps k x)) := by rw [hbx.cell, ints_get _ _ _ (by omega), covIn_at]
          have hfx := hbx.frozen x
          have HB5 : Hid (Blk (wr.setCell ⟨w.heap.size, x, none⟩ (.int .i64 (cov ps k x + 1))) w.heap.size 3 (ints size (covIn ps k a (x + 1)))) := by rw [← covIn_set ps k a x size hx1]; exact hbx.set_ x _
          clear hbx hpx hwx
          go_wp2
          go_roundw
          case rel => exact ⟨x + 1, by omega, by omega, by go_num, HB5.out, HPX.out.far (p := ⟨w.heap.size, x, none⟩) HNE.out _, HWX.out.setCell (p := ⟨w.heap.size, x, none⟩) (Nat.le_refl _) _⟩
          case measure => simp [intOf]; omega
        · obtain rfl : x = a + l := by omega
          have HB5 := Lib.hid (covIn_end ps k a l size HA.out HL.out)
          clear hbx hpx hwx
          go_wp2
          go_roundw
          case rel => exact ⟨k + 1, by omega, by go_num, by rw [← HB5.out]; exact HBX.out, HWX.out⟩
          case measure => simp [intOf]; omega
    · obtain rfl : k = n := by omega
      clear hblk hb
      go_wp2
      go_ret2
      exact ⟨rfl, HBL.out, HB.out⟩
end Go.Proofs.Ytiahifohkhdmdaa
