/- The law FnInvertTwice: its walk. -/
import Derived.Test.YtiahifohkhdmdaaInvert2
namespace Go.Proofs.Ytiahifohkhdmdaa
open Go.RowKit

theorem inv_twice (ps : List (Int × Int)) (S : Int) (hS : 0 ≤ S) (h : ∀ j, j < ps.length → okP ps S j) (x : Nat) (hx : (x : Int) < S) :
    cov (inv (inv ps S) S) (inv (inv ps S) S).length x = cov ps ps.length x := by
  obtain ⟨v1, v2, _⟩ := inv_ok ps S hS h
  obtain ⟨_, u2, _⟩ := inv_ok (inv ps S) S hS v1
  have a := v2 x hx
  have b := u2 x hx
  omega

set_option maxRecDepth 20000 in
set_option maxHeartbeats 4000000 in
theorem fnInvertTwice_walk (A : Option Addr) (n c : Nat) (ns : List Int) (w : World) (hn : ns.length = n) (hr : RC w w.heap.size A (nums ns)) (hm : n ≤ 9223372036854775807) (hsm : Small ns) :
    Calls Try.prog 9 #[.slice A n c] w fun e w' => e = .returned (.bool true) ∧ Below w.heap.size w w' := by
  have HN := Lib.hid hn
  have HR := Lib.hid hr
  have HS := Lib.hid hsm
  clear hn hr hsm
  by_cases hbig : 2147483647 < n
  · go_enter Try.func9, Try.ntmps9
    go_wp2
    go_ret
    exact ⟨rfl, Below.refl _ _⟩
  go_enter Try.func9, Try.ntmps9
  go_wp2_with fail
  refine (pieces_any A n c _ ns w HN.out HR.out (Nat.le_refl _) (by omega) HS.out).mono ?_
  rintro e w1 ⟨ps, sz, all, v, rfl, hgen, hown1, hb1⟩
  obtain ⟨hsz0, hok⟩ := gen_ok hgen
  obtain ⟨S, rfl⟩ : ∃ S : Nat, sz = S := ⟨sz.toNat, by omega⟩
  obtain ⟨A1, c1, rfl, _, _, _⟩ := own_form hown1
  obtain ⟨k, hk⟩ : ∃ k, ps.length = k := ⟨_, rfl⟩
  have HB1 := Lib.hid hb1
  have hklen : k ≤ 100 := by rw [← hk]; exact hgen.len
  rw [hk] at hown1 ⊢
  have HR1 := Lib.hid (RC.of_own hown1)
  have HOK := Lib.hid hok
  have HK := Lib.hid hk
  clear hown1 hb1 hgen hok hk
  by_cases hS : 16384 < (S : Int)
  · go_wp2
    go_ret
    exact ⟨rfl, HB1.out⟩
  -- x: covers(pieceList(l), size)
  go_wp2_with fail
  refine (pieceList_any A1 k c1 w1.heap.size ps w1 HK.out HR1.out (Nat.le_refl _) (by omega)).mono ?_
  rintro e w2 ⟨va, rfl, hown2, hb2⟩
  obtain ⟨A2, c2, rfl, _, _, _⟩ := own_form hown2
  have HR2 := Lib.hid (HR1.out.below hb2)
  have HA2 := Lib.hid (RC.of_own hown2)
  have HB2 := Lib.hid (HB1.out.trans (hb2.mono HB1.out.size))
  have HZ2 := Lib.hid hb2.size
  clear hown2 hb2
  go_wp2_with fail
  refine (covers_any A2 k c2 w2.heap.size S ps w2 HK.out HA2.out (Nat.le_refl _) (by omega) (ok_within ps S HOK.out) (by omega)).mono ?_
  rintro e w3 ⟨rfl, hblk3, hb3⟩
  have HX := Lib.hid hblk3
  have HR3 := Lib.hid (HR2.out.below (hb3.mono HZ2.out))
  have HB3 := Lib.hid (HB2.out.trans (hb3.mono HB2.out.size))
  have HZ3 := Lib.hid (Nat.le_trans HZ2.out hb3.size)
  have HXL := Lib.hid hblk3.lt
  clear hblk3 hb3
  obtain ⟨gx, hgx⟩ : ∃ gx, gx = w2.heap.size := ⟨_, rfl⟩
  rw [← hgx] at HX HXL ⊢
  clear hgx
  -- y: covers(Invert(Invert(pieceList(l), size), size), size)
  go_wp2_with fail
  refine (pieceList_any A1 k c1 w1.heap.size ps w3 HK.out HR3.out HZ3.out (by omega)).mono ?_
  rintro e w4 ⟨vc, rfl, hown4, hb4⟩
  obtain ⟨A4, c4, rfl, _, _, _⟩ := own_form hown4
  have HA4 := Lib.hid (RC.of_own hown4)
  have HX4 := Lib.hid (HX.out.below hb4 HXL.out)
  have HXL4 : Hid (gx < w4.heap.size) := Nat.lt_of_lt_of_le HXL.out hb4.size
  have HB4 := Lib.hid (HB3.out.trans (hb4.mono HB3.out.size))
  clear hown4 hb4
  go_wp2_with fail
  obtain ⟨i1, _⟩ := inv_len ps S
  obtain ⟨v1, _, _⟩ := inv_ok ps S hsz0 HOK.out
  obtain ⟨m, hm0⟩ : ∃ m, (inv ps S).length = m := ⟨_, rfl⟩
  have H5 := Lib.hid (implInvert_any A4 k c4 w4.heap.size ps S w4 HK.out HA4.out (Nat.le_refl _) (by omega) HOK.out hsz0 (by omega))
  rw [hm0] at i1 H5
  rw [HK.out] at i1
  have HM := Lib.hid hm0
  have V1 := Lib.hid v1
  clear hm0 v1
  refine H5.out.mono ?_
  rintro e w5 ⟨vd, rfl, hown5, hb5⟩
  obtain ⟨A5, c5, rfl, _, _, _⟩ := own_form hown5
  have HA5 := Lib.hid (RC.of_own hown5)
  have HX5 := Lib.hid (HX4.out.below hb5 HXL4.out)
  have HXL5 : Hid (gx < w5.heap.size) := Nat.lt_of_lt_of_le HXL4.out hb5.size
  have HB5 := Lib.hid (HB4.out.trans (hb5.mono HB4.out.size))
  clear hown5 hb5 H5
  go_wp2_with fail
  obtain ⟨j1, _⟩ := inv_len (inv ps S) S
  obtain ⟨u1, _, _⟩ := inv_ok (inv ps S) S hsz0 V1.out
  obtain ⟨r, hr0⟩ : ∃ r, (inv (inv ps S) S).length = r := ⟨_, rfl⟩
  have H6 := Lib.hid (implInvert_any A5 m c5 w5.heap.size (inv ps S) S w5 HM.out HA5.out (Nat.le_refl _) (by omega) V1.out hsz0 (by omega))
  rw [hr0] at j1 H6
  rw [HM.out] at j1
  have HRR := Lib.hid hr0
  have U1 := Lib.hid u1
  clear hr0 u1
  refine H6.out.mono ?_
  rintro e w6 ⟨ve_, rfl, hown6, hb6⟩
  obtain ⟨A6, c6, rfl, _, _, _⟩ := own_form hown6
  have HA6 := Lib.hid (RC.of_own hown6)
  have HX6 := Lib.hid (HX5.out.below hb6 HXL5.out)
  have HXL6 : Hid (gx < w6.heap.size) := Nat.lt_of_lt_of_le HXL5.out hb6.size
  have HB6 := Lib.hid (HB5.out.trans (hb6.mono HB5.out.size))
  clear hown6 hb6 H6
  go_wp2_with fail
  refine (covers_any A6 r c6 w6.heap.size S (inv (inv ps S) S) w6 HRR.out HA6.out (Nat.le_refl _) (by omega) (ok_within _ S U1.out) (by omega)).mono ?_
  rintro e w7 ⟨rfl, hblk7, hb7⟩
  have HY7 := Lib.hid hblk7
  have HX7 := Lib.hid (HX6.out.below hb7 HXL6.out)
  have HB7 := Lib.hid (HB6.out.trans (hb7.mono HB6.out.size))
  clear hblk7 hb7
  obtain ⟨gy, hgy⟩ : ∃ gy, gy = w6.heap.size := ⟨_, rfl⟩
  rw [← hgy] at HY7 ⊢
  clear hgy
  go_wp2_with fail
  go_loopw [48] (fun s wr => ∃ i q : Nat, i ≤ S ∧ s = .int .i64 i ∧ wr = w7.drewN q) (fun s _ => S - (intOf s).toNat)
  case atStart => exact ⟨0, 0, by omega, rfl, rfl⟩
  case round =>
    obtain ⟨i, q, hi, rfl, rfl⟩ := hrel
    by_cases hlt : i < S
    · have hx : w7.cell? ⟨gx, i, none⟩ = some (.int .i64 (cov ps k i)) := by rw [HX7.out.cell, ints_get _ _ _ hlt]
      have hy : w7.cell? ⟨gy, i, none⟩ = some (.int .i64 (cov ps k i)) := by
        have := inv_twice ps S hsz0 HOK.out i (by omega)
        rw [HRR.out, HK.out] at this
        rw [HY7.out.cell, ints_get _ _ _ hlt, this]
      have hi0 : (0 : Int) ≤ (i : Int) := by omega
      have hi1 : (i : Int) < (S : Int) := by omega
      go_wp2
      go_region_held3 (fun w' => w'.cell? ⟨gx, i, none⟩ = some (.int .i64 (cov ps k i)) ∧ w'.cell? ⟨gy, i, none⟩ = some (.int .i64 (cov ps k i))) (go_keep) (fail)
      go_wp2
      go_roundw
      case rel => exact ⟨i + 1, q + 1, by omega, by go_num, rfl⟩
      case measure => simp [intOf]; omega
    · obtain rfl : i = S := by omega
      obtain ⟨w8, hw8⟩ : ∃ w8, w8 = w7.drewN q := ⟨_, rfl⟩
      have HB8 : Hid (Below w.heap.size w w8) := by rw [hw8]; exact below_drewN HB7.out q
      rw [← hw8]
      clear hw8
      have hnil : ∀ j, j < ([] : List (Int × Int)).length → okP [] (i : Int) j := fun j hj => by simp at hj
      have HI := fun (w : World) => implInvert_any none 0 0 w.heap.size [] i w rfl RC.nil_ (Nat.le_refl _) (by omega) hnil hsz0 (by omega)
      have HL1 : (inv [] (i : Int)).length = 1 := rfl
      obtain ⟨z1, _, _⟩ := inv_ok [] (i : Int) hsz0 hnil
      rw [HL1] at HI
      have HII := Lib.hid HI
      have HVL := Lib.hid (vld_true (ps := inv [] (i : Int)) (size := i) ⟨hsz0, z1⟩)
      have HFT := Lib.hid (ok_fit (inv [] (i : Int)) i (by omega) z1)
      clear hnil HI z1
      go_wp2_with fail
      refine (HII.out _).mono ?_
      rintro e w9 ⟨vf, rfl, hown9, hb9⟩
      obtain ⟨A9, c9, rfl, _, _, _⟩ := own_form hown9
      have HV := Lib.hid (implValid_any A9 1 c9 w9.heap.size (inv [] (i : Int)) i w9 HL1 (RC.of_own hown9) (Nat.le_refl _) (by omega) HFT.out (by omega) (by omega))
      rw [HVL.out] at HV
      have HB9 := Lib.hid (HB8.out.trans (hb9.mono HB8.out.size))
      clear hown9 hb9
      go_wp2_with fail
      refine HV.out.mono ?_
      rintro e w10 ⟨rfl, hb10⟩
      have HB10 := Lib.hid (HB9.out.trans (hb10.mono HB9.out.size))
      clear hb10
      go_wp2_with fail
      refine (HII.out _).mono ?_
      rintro e w11 ⟨vg, rfl, hown11, hb11⟩
      obtain ⟨A11, c11, rfl, _, _, _⟩ := own_form hown11
      have HB11 := Lib.hid (HB10.out.trans (hb11.mono HB10.out.size))
      clear hown11 hb11
      go_wp2
      go_ret
      exact ⟨rfl, HB11.out⟩
end Go.Proofs.Ytiahifohkhdmdaa
