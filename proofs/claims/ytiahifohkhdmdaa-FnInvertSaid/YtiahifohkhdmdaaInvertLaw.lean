/- The law FnInvert: its walk. -/
import Derived.Test.YtiahifohkhdmdaaInvert2
namespace Go.Proofs.Ytiahifohkhdmdaa
open Go.RowKit

set_option maxRecDepth 20000 in
set_option maxHeartbeats 4000000 in
theorem fnInvert_walk (A : Option Addr) (n c : Nat) (ns : List Int) (w : World) (hn : ns.length = n) (hr : RC w w.heap.size A (nums ns)) (hm : n ≤ 9223372036854775807) (hsm : Small ns) :
    Calls Try.prog 8 #[.slice A n c] w fun e w' => e = .returned (.bool true) ∧ Below w.heap.size w w' := by
  have HN := Lib.hid hn
  have HR := Lib.hid hr
  have HS := Lib.hid hsm
  clear hn hr hsm
  by_cases hbig : 2147483647 < n
  · go_enter Try.func8, Try.ntmps8
    go_wp2
    go_ret
    exact ⟨rfl, Below.refl _ _⟩
  go_enter Try.func8, Try.ntmps8
  go_wp2_with fail
  refine (pieces_any A n c _ ns w HN.out HR.out (Nat.le_refl _) (by omega) HS.out).mono ?_
  rintro e w1 ⟨ps, sz, all, v, rfl, hgen, hown1, hb1⟩
  obtain ⟨hsz0, hok⟩ := gen_ok hgen
  obtain ⟨S, rfl⟩ : ∃ S : Nat, sz = S := ⟨sz.toNat, by omega⟩
  obtain ⟨A1, c1, rfl, _, _, _⟩ := own_form hown1
  obtain ⟨k, hk⟩ : ∃ k, ps.length = k := ⟨_, rfl⟩
  have HB1 := Lib.hid hb1
  have hklen : k ≤ 100 := by rw [← hk]; exact hgen.len
  rw [hk] at hown1 ⊢
  have HR1 := Lib.hid (RC.of_own hown1)
  have HOK := Lib.hid hok
  have HK := Lib.hid hk
  clear hown1 hb1 hgen hok hk
  by_cases hS : 16384 < (S : Int)
  · go_wp2
    go_ret
    exact ⟨rfl, HB1.out⟩
  obtain ⟨i1, i2⟩ := inv_len ps S
  obtain ⟨v1, v2, v3⟩ := inv_ok ps S hsz0 HOK.out
  obtain ⟨m, hm0⟩ : ∃ m, (inv ps S).length = m := ⟨_, rfl⟩
  rw [hm0] at i1 i2 v1 v2 v3
  rw [HK.out] at i1 v2
  have HM := Lib.hid hm0
  have V1 := Lib.hid v1
  have V2 := Lib.hid v2
  have V3 := Lib.hid v3
  clear hm0 v1 v2 v3
  -- a := pieceList(l)
  go_wp2_with fail
  refine (pieceList_any A1 k c1 w1.heap.size ps w1 HK.out HR1.out (Nat.le_refl _) (by omega)).mono ?_
  rintro e w2 ⟨va, rfl, hown2, hb2⟩
  obtain ⟨A2, c2, rfl, _, _, _⟩ := own_form hown2
  have HR2 := Lib.hid (HR1.out.below hb2)
  have HA2 := Lib.hid (RC.of_own hown2)
  have HB2 := Lib.hid (HB1.out.trans (hb2.mono HB1.out.size))
  have HZ2 := Lib.hid hb2.size
  clear hown2 hb2
  -- b := impl.Invert(a, size)
  have H3 := Lib.hid (implInvert_any A2 k c2 w2.heap.size ps S w2 HK.out HA2.out (Nat.le_refl _) (by omega) HOK.out hsz0 (by omega))
  rw [HM.out] at H3
  go_wp2_with fail
  refine H3.out.mono ?_
  rintro e w3 ⟨vb, rfl, hown3, hb3⟩
  obtain ⟨A3, c3, rfl, _, _, _⟩ := own_form hown3
  have HR3 := Lib.hid (HR2.out.below (hb3.mono HZ2.out))
  have HA3 := Lib.hid (RC.of_own hown3)
  have HB3 := Lib.hid (HB2.out.trans (hb3.mono HB2.out.size))
  have HZ3 := Lib.hid (Nat.le_trans HZ2.out hb3.size)
  clear hown3 hb3 H3
  -- x: covers(pieceList(l), size)
  go_wp2_with fail
  refine (pieceList_any A1 k c1 w1.heap.size ps w3 HK.out HR3.out HZ3.out (by omega)).mono ?_
  rintro e w4 ⟨vc, rfl, hown4, hb4⟩
  obtain ⟨A4, c4, rfl, _, _, _⟩ := own_form hown4
  have HA4 := Lib.hid (RC.of_own hown4)
  have HA3' := Lib.hid (HA3.out.below hb4)
  have HB4 := Lib.hid (HB3.out.trans (hb4.mono HB3.out.size))
  have HZ4 := Lib.hid hb4.size
  clear hown4 hb4
  go_wp2_with fail
  refine (covers_any A4 k c4 w4.heap.size S ps w4 HK.out HA4.out (Nat.le_refl _) (by omega) (ok_within ps S HOK.out) (by omega)).mono ?_
  rintro e w5 ⟨rfl, hblk5, hb5⟩
  have HX := Lib.hid hblk5
  have HA5 := Lib.hid (HA3'.out.below (hb5.mono HZ4.out))
  have HB5 := Lib.hid (HB4.out.trans (hb5.mono HB4.out.size))
  have HZ5 := Lib.hid (Nat.le_trans HZ4.out hb5.size)
  have HXL := Lib.hid hblk5.lt
  clear hblk5 hb5
  obtain ⟨gx, hgx⟩ : ∃ gx, gx = w4.heap.size := ⟨_, rfl⟩
  rw [← hgx] at HX HXL ⊢
  clear hgx
  -- y: covers(b, size)
  go_wp2_with fail
  refine (covers_any A3 m c3 w3.heap.size S (inv ps S) w5 HM.out HA5.out HZ5.out (by omega) (ok_within (inv ps S) S (by rw [HM.out]; exact V1.out)) (by omega)).mono ?_
  rintro e w6 ⟨rfl, hblk6, hb6⟩
  have HY := Lib.hid hblk6
  have HX6 := Lib.hid (HX.out.below hb6 HXL.out)
  have HA6 := Lib.hid (HA5.out.below (hb6.mono HZ5.out))
  have HB6 := Lib.hid (HB5.out.trans (hb6.mono HB5.out.size))
  have HZ6 := Lib.hid (Nat.le_trans HZ5.out hb6.size)
  have HYL := Lib.hid hblk6.lt
  have HXL6 : Hid (gx < w6.heap.size) := Nat.lt_of_lt_of_le HXL.out hb6.size
  clear hblk6 hb6
  obtain ⟨gy, hgy⟩ : ∃ gy, gy = w5.heap.size := ⟨_, rfl⟩
  rw [← hgy] at HY HYL ⊢
  clear hgy
  -- the test
  have hm1 : ((m : Int) == 0) = false := by rw [beq_eq_false_iff_ne]; omega
  have HV := Lib.hid (implValid_any A3 m c3 w3.heap.size (inv ps S) S w6 HM.out HA6.out HZ6.out (by omega) (ok_fit (inv ps S) S (by omega) (by rw [HM.out]; exact V1.out)) (by omega) (by omega))
  rw [vld_true (ps := inv ps S) (size := S) ⟨hsz0, by rw [HM.out]; exact V1.out⟩] at HV
  go_wp2_with (go_at_call 16; refine HV.out.mono ?_; rintro e w7 ⟨rfl, hb7⟩)
  have HX7 := Lib.hid (HX6.out.below hb7 HXL6.out)
  have HY7 := Lib.hid (HY.out.below hb7 HYL.out)
  have HA7 := Lib.hid (HA6.out.below (hb7.mono HZ6.out))
  have HB7 := Lib.hid (HB6.out.trans (hb7.mono HB6.out.size))
  clear hb7
  go_loopw [61] (fun s wr => ∃ i q : Nat, i ≤ S ∧ s = .int .i64 i ∧ wr = w7.drewN q) (fun s _ => S - (intOf s).toNat)
  case atStart => exact ⟨0, 0, by omega, rfl, rfl⟩
  case round =>
    obtain ⟨i, q, hi, rfl, rfl⟩ := hrel
    by_cases hlt : i < S
    · have hx : w7.cell? ⟨gx, i, none⟩ = some (.int .i64 (cov ps k i)) := by rw [HX7.out.cell, ints_get _ _ _ hlt]
      have hy : w7.cell? ⟨gy, i, none⟩ = some (.int .i64 (cov (inv ps S) m i)) := by rw [HY7.out.cell, ints_get _ _ _ hlt]
      have HE := Lib.hid (V2.out i (by omega))
      obtain ⟨b1, b2⟩ := cov_bd ps k i
      obtain ⟨b3, b4⟩ := cov_bd (inv ps S) m i
      have hne : (cov ps k i + cov (inv ps S) m i != 1) = false := by rw [bne_eq_false_iff_eq]; have := HE.out; omega
      have hi0 : (0 : Int) ≤ (i : Int) := by omega
      have hi1 : (i : Int) < (S : Int) := by omega
      go_wp2
      have q1 : IntKind.i64.wrap (cov ps k i + cov (inv ps S) m i) = cov ps k i + cov (inv ps S) m i := IntWalk.i64_in _ (by omega)
      go_region_held3 (fun w' => w'.cell? ⟨gx, i, none⟩ = some (.int .i64 (cov ps k i)) ∧ w'.cell? ⟨gy, i, none⟩ = some (.int .i64 (cov (inv ps S) m i))) (go_keep) (fail)
      clear q1
      go_wp2
      go_roundw
      case rel => exact ⟨i + 1, q + 1, by omega, by go_num, rfl⟩
      case measure => simp [intOf]; omega
    · obtain rfl : i = S := by omega
      obtain ⟨b, off, rfl, _, hc1, hc2⟩ := HA7.out.piece (k := m - 1) (by rw [HM.out]; omega)
      have hm2 : (0 : Int) ≤ (m : Int) - 1 := by omega
      have hm3 : (1 : Int) ≤ (m : Int) := by omega
      have hm4 : (m : Int) - 1 < (m : Int) := by omega
      have he : (po (inv ps i) (m - 1) + pl (inv ps i) (m - 1) == (i : Int)) = true := by rw [beq_iff_eq]; exact V3.out
      go_wp2
      have q1 : IntKind.i64.wrap ((m : Int) - 1) = (m : Int) - 1 := IntWalk.i64_in _ (by omega)
      have q2 : ((m : Int) - 1).toNat = m - 1 := by omega
      have q3 : IntKind.i64.wrap (po (inv ps i) (m - 1) + pl (inv ps i) (m - 1)) = po (inv ps i) (m - 1) + pl (inv ps i) (m - 1) := IntWalk.i64_in _ (by have := V3.out; omega)
      go_region_held3 (fun w' => w'.cell? ⟨b, off + (m - 1) * 2, none⟩ = some (.int .i64 (po (inv ps i) (m - 1))) ∧ w'.cell? ⟨b, off + (m - 1) * 2 + 1, none⟩ = some (.int .i64 (pl (inv ps i) (m - 1)))) (go_keep) (fail)
      clear q1 q2 q3
      go_wp2
      go_ret
      exact ⟨rfl, (below_drewN HB7.out _).drew⟩
end Go.Proofs.Ytiahifohkhdmdaa
