/- formatNumeric. -/
import Derived.Test.YtagjbndcbcepcaaDoorFO
import Derived.Test.YtagjbndcbcepcaaDoorErr
import Derived.Test.YtagjbndcbcepcaaDoorPutB
namespace Go.Proofs.YtagjbndcbcepcaaDoor
open Go.RowKit Go.PlainAid
set_option linter.unusedVariables false

theorem put_setA {m t : Nat} (n : Int) (h : t ≤ m) : (zbs (m + 1 - t) ++ be t n).set (m - t) (u8 (n / ((256 ^ t : Nat) : Int))) = zbs (m + 1 - (t + 1)) ++ be (t + 1) n := by
  obtain ⟨k, hk⟩ : ∃ k, m - t = k := ⟨_, rfl⟩
  rw [hk, show m + 1 - (t + 1) = k by omega, show m + 1 - t = k + 1 by omega, List.set_append_left _ _ (by rw [length_zbs]; omega)]
  have e : (zbs (k + 1)).set k (u8 (n / ((256 ^ t : Nat) : Int))) = zbs k ++ [u8 (n / ((256 ^ t : Nat) : Int))] := by
    have e2 : zbs (k + 1) = zbs k ++ [0] := by unfold zbs; rw [List.replicate_succ']
    rw [e2, List.set_append_right _ _ (by rw [length_zbs]; omega), length_zbs, Nat.sub_self]
    rfl
  rw [e, be, List.append_assoc]
  rfl
theorem bys_setN (bs : List UInt8) (p : Nat) (v : UInt8) : (bys bs).set p (.int .u8 (v.toNat : Int)) = bys (bs.set p v) := by simp [bys, List.map_set]
theorem ediv_small {n p : Int} (hp : 0 < p) (h1 : -p ≤ n) (h2 : n < p) : n / p = if n < 0 then -1 else 0 := by
  by_cases h : n < 0
  · rw [if_pos h]
    have e := Int.add_mul_ediv_right n 1 (c := p) (by omega)
    rw [Int.one_mul, Int.ediv_eq_zero_of_lt (a := n + p) (by omega) (by omega)] at e
    omega
  · rw [if_neg h]
    exact Int.ediv_eq_zero_of_lt (by omega) h2
theorem fits_top {m : Nat} {n : Int} (hf : fitsB m n = true) (h1 : -9223372036854775808 ≤ n) (h2 : n ≤ 9223372036854775807) : n / ((256 ^ m : Nat) : Int) = if n < 0 then -1 else 0 := by
  have hp : 0 < 256 ^ m := Nat.pow_pos (by omega)
  unfold fitsB at hf
  by_cases h8 : 8 ≤ m
  · have h4 := Nat.pow_le_pow_right (n := 256) (by omega) h8
    have h5 : (256 : Nat) ^ 8 = 18446744073709551616 := by decide
    exact ediv_small (by omega) (by omega) (by omega)
  · simp only [h8, decide_false, Bool.false_or, Bool.and_eq_true, decide_eq_true_eq] at hf
    exact ediv_small (by omega) hf.1 hf.2
theorem or255 : bits .or .u8 255 128 = 255 := by decide
theorem or0 : bits .or .u8 0 128 = 128 := by decide
/-- What is written: the way behind the tests of room. -/
def FNP (F G m : Nat) (v : Value) (bs : List UInt8) (B : Nat) (w : World) (e : Ending) (w' : World) : Prop :=
  e = .returned (.tuple #[]) ∧ Blk w' F 44 [v] ∧ Blk w' G 5 (bys bs) ∧ Below B w w'

set_option maxHeartbeats 800000 in
set_option maxRecDepth 20000 in
theorem formatNumeric_oct (F G m B N : Nat) (w : World) (hF : Blk w F 44 [.nilIface]) (hG : Blk w G 5 (bys (zbs (m + 1)))) (hBF : B ≤ F) (hBG : B ≤ G) (hB : B ≤ w.heap.size) (hne : F ≠ G) (hm : 1 ≤ m) (hm2 : m ≤ 21)
    (hN : N < 8 ^ m) (hN2 : N < 9223372036854775808) (hT : Tz8 w) :
    Calls Tryd.prog 35 #[.pointer (some ⟨F, 0, none⟩), .slice (some ⟨G, 0, none⟩) (m + 1) (m + 1), .int .i64 (N : Int)] w (FNP F G m .nilIface (od m (N : Int) ++ [0]) B w) := by
  have HO := Lib.hid (formatOctal_yes F G m B N w hF hG hBF hBG hB hne hm hm2 hN hN2 hT)
  have HFT := Lib.hid (fits8 m ((m : Int) + 1) (N : Int) w rfl hm hm2 (by omega) (by omega))
  have HFY : Hid (fitsO m (N : Int) = true) := Lib.hid (fitsO_yes rfl (by omega) (Int.ofNat_lt.2 hN))
  clear hF hG hT hN
  go_enter Tryd.func35, Tryd.ntmps35
  go_wp2_with fail
  refine HFT.out.mono ?_
  unfold FitOP
  rw [HFY.out]
  rintro e w1 ⟨rfl, rfl⟩
  go_wp2_with fail
  refine HO.out.mono ?_
  rintro e w2 ⟨rfl, a1, a2, a3⟩
  have HA := Lib.hid (And.intro a1 (And.intro a2 a3))
  clear a1 a2 a3
  go_wp2
  refine bodyPost_end (results_none rfl _ _ _) rfl ?_
  exact ⟨rfl, HA.out.1, HA.out.2.1, HA.out.2.2⟩

set_option maxHeartbeats 1600000 in
set_option maxRecDepth 20000 in
theorem formatNumeric_bin (F G s B : Nat) (n : Int) (v : Value) (w : World) (hF : Blk w F 44 [v]) (hG : Blk w G 5 (bys (zbs (s + 1 + 1)))) (hBF : B ≤ F) (hBG : B ≤ G) (hne : F ≠ G) (hs : s ≤ 20)
    (ho : fitsO (s + 1) n = false) (hb : fitsB (s + 1) n = true) (h1 : -9223372036854775808 ≤ n) (h2 : n ≤ 9223372036854775807) :
    Calls Tryd.prog 35 #[.pointer (some ⟨F, 0, none⟩), .slice (some ⟨G, 0, none⟩) (s + 1 + 1) (s + 1 + 1), .int .i64 n] w (FNP F G (s + 1) v (fieldB (s + 1) n) B w) := by
  have HF := Lib.hid hF
  have HG := Lib.hid hG
  have HFT : Hid (Calls Tryd.prog 31 #[.int .i64 ((s : Int) + 1 + 1), .int .i64 n] w (FitOP (s + 1) n w)) := Lib.hid (fits8 (s + 1) _ n w (by omega) (by omega) (by omega) h1 h2)
  have HFB : Hid (Calls Tryd.prog 33 #[.int .i64 ((s : Int) + 1 + 1), .int .i64 n] w (FitP (s + 1) n w)) := Lib.hid (fits256 s _ n w (by omega) hs h1 h2)
  have HO := Lib.hid ho
  have HB := Lib.hid hb
  have HTOP := Lib.hid (fits_top hb h1 h2)
  clear hF hG ho hb
  go_enter Tryd.func35, Tryd.ntmps35
  go_wp2_with fail
  refine HFT.out.mono ?_
  unfold FitOP
  rw [HO.out]
  rintro e w1 ⟨rfl, rfl⟩
  go_wp2_with fail
  refine HFB.out.mono ?_
  unfold FitP
  rw [HB.out]
  rintro e w1 ⟨rfl, rfl⟩
  go_wp2
  go_loopw [2, 6] (fun v2 v6 wr => ∃ (t : Nat) (z q : Int), t ≤ s + 2 ∧ v6 = .int .i64 z ∧ v2 = .int .i64 q ∧ -1 ≤ z ∧ z ≤ (s : Int) + 1 ∧ -9223372036854775808 ≤ q ∧ q ≤ 9223372036854775807 ∧ Hid (z = (s : Int) + 1 - (t : Int)) ∧ Hid (q = n / ((256 ^ t : Nat) : Int)) ∧ Hid (Blk wr G 5 (bys (zbs (s + 1 + 1 - t) ++ be t n))) ∧ Hid (Blk wr F 44 [v]) ∧ Hid (Below B w wr)) (fun _ v6 _ => (intOf v6 + 1).toNat)
  case atStart => exact ⟨0, (s : Int) + 1, n, by omega, by go_num, rfl, by omega, by omega, h1, h2, Lib.hid (by omega), Lib.hid (by simp), Lib.hid (by simpa [be] using HG.out), HF, Lib.hid (Below.refl _ _)⟩
  case round =>
    obtain ⟨t, z, q, ht, rfl, rfl, hz1, hz2, hq1, hq2, hZ, hQ, hA, hFr, hW⟩ := hrel
    by_cases htl : t ≤ s + 1
    · obtain ⟨j, hj⟩ : ∃ j : Nat, s + 1 - t = j := ⟨_, rfl⟩
      obtain rfl : z = (j : Int) := by have := hZ.out; omega
      have hj0 : (0 : Int) ≤ (j : Int) := by omega
      have hj1 : (j : Int) < (s : Int) + 1 + 1 := by omega
      have q0 : wr.cell? ⟨G, j, none⟩ = some (.int .u8 (byt (zbs (s + 1 + 1 - t) ++ be t n) j)) := by rw [hA.out.cell, bys_get _ _ (by rw [List.length_append, length_zbs]; omega)]
      have q1 := hA.out.frozen j
      have HS : Hid (Blk (wr.setCell ⟨G, j, none⟩ (.int .u8 (q % 256))) G 5 (bys (zbs (s + 1 + 1 - (t + 1)) ++ be (t + 1) n))) := Lib.hid (by
        have h3 := put_setA (m := s + 1) (t := t) n (by omega)
        rw [hj] at h3
        rw [← h3, ← bys_setN, u8_toNat, ← hQ.out]
        exact hA.out.set_ j _)
      have HFR : Hid (Blk (wr.setCell ⟨G, j, none⟩ (.int .u8 (q % 256))) F 44 [v]) := Lib.hid (hFr.out.far (p := ⟨G, j, none⟩) hne _)
      have HQ2 : Hid (q / 256 = n / ((256 ^ (t + 1) : Nat) : Int)) := Lib.hid (by rw [← be_next, hQ.out])
      have HZ2 : Hid ((j : Int) - 1 = (s : Int) + 1 - ((t + 1 : Nat) : Int)) := Lib.hid (by have := hZ.out; omega)
      have hb1 : -9223372036854775808 ≤ q / 256 := by omega
      have hb2 : q / 256 ≤ 9223372036854775807 := by omega
      go_wp2
      go_roundw
      case rel => exact ⟨t + 1, (j : Int) - 1, q / 256, by omega, rfl, rfl, by omega, by omega, hb1, hb2, HZ2, HQ2, HS, HFR, Lib.hid (hW.out.setCell (by exact hBG) _)⟩
      case measure => simp [intOf] <;> omega
    · obtain rfl : t = s + 2 := by omega
      obtain rfl : z = -1 := by have := hZ.out; omega
      have HA2 : Hid (Blk wr G 5 (bys (u8 (n / ((256 ^ (s + 1) : Nat) : Int)) :: be (s + 1) n))) := Lib.hid (by
        have := hA.out
        rw [show s + 1 + 1 - (s + 2) = 0 by omega] at this
        exact this)
      have q1 := hA.out.frozen 0
      have hs0 : (0 : Int) < (s : Int) + 1 + 1 := by omega
      by_cases hn : n < 0
      · have HH : Hid (u8 (n / ((256 ^ (s + 1) : Nat) : Int)) = 255) := Lib.hid (by rw [HTOP.out, if_pos hn]; rfl)
        have HH2 : Hid (headB n = 255) := Lib.hid (by unfold headB; rw [if_pos hn])
        have q0 : wr.cell? ⟨G, 0, none⟩ = some (.int .u8 255) := by rw [HA2.out.cell, HH.out]; rfl
        have e255 := or255
        clear hn
        go_wp2
        refine bodyPost_end (results_none rfl _ _ _) rfl ?_
        refine ⟨rfl, hFr.out.far (p := ⟨G, 0, none⟩) hne _, ?_, hW.out.setCell (by exact hBG) _⟩
        have h3 := HA2.out.set_ 0 (.int .u8 255)
        unfold fieldB
        rw [HH2.out]
        exact h3
      · have HH : Hid (u8 (n / ((256 ^ (s + 1) : Nat) : Int)) = 0) := Lib.hid (by rw [HTOP.out, if_neg hn]; rfl)
        have HH2 : Hid (headB n = 128) := Lib.hid (by unfold headB; rw [if_neg hn])
        have q0 : wr.cell? ⟨G, 0, none⟩ = some (.int .u8 0) := by rw [HA2.out.cell, HH.out]; rfl
        have e0 := or0
        clear hn
        go_wp2
        refine bodyPost_end (results_none rfl _ _ _) rfl ?_
        refine ⟨rfl, hFr.out.far (p := ⟨G, 0, none⟩) hne _, ?_, hW.out.setCell (by exact hBG) _⟩
        have h3 := HA2.out.set_ 0 (.int .u8 128)
        unfold fieldB
        rw [HH2.out]
        exact h3

set_option maxHeartbeats 1600000 in
set_option maxRecDepth 20000 in
theorem formatNumeric_no (F G s B : Nat) (n : Int) (w : World) (hF : Blk w F 44 [.nilIface]) (hG : Blk w G 5 (bys (zbs (s + 1 + 1)))) (hBF : B ≤ F) (hBG : B ≤ G) (hB : B ≤ w.heap.size) (hne : F ≠ G) (hs : s ≤ 20)
    (ho : fitsO (s + 1) n = false) (hb : fitsB (s + 1) n = false) (h1 : -9223372036854775808 ≤ n) (h2 : n ≤ 9223372036854775807) (hT : Tz8 w) {a : Addr} (hE : Err B w 1 a) :
    Calls Tryd.prog 35 #[.pointer (some ⟨F, 0, none⟩), .slice (some ⟨G, 0, none⟩) (s + 1 + 1) (s + 1 + 1), .int .i64 n] w fun e w' => e = .returned (.tuple #[]) ∧ w'.cell? ⟨F, 0, none⟩ = some (errV a) ∧ Below B w w' := by
  have HOC : Hid (Calls Tryd.prog 34 #[.pointer (some ⟨F, 0, none⟩), .slice (some ⟨G, 0, none⟩) (s + 1 + 1) (s + 1 + 1), .int .i64 0] w (FOP F G (s + 1) .nilIface 0 B w)) := Lib.hid (formatOctal_yes F G (s + 1) B 0 w hF hG hBF hBG hB hne (by omega) (by omega) (Nat.pow_pos (by omega)) (by omega) hT)
  have HFT : Hid (Calls Tryd.prog 31 #[.int .i64 ((s : Int) + 1 + 1), .int .i64 n] w (FitOP (s + 1) n w)) := Lib.hid (fits8 (s + 1) _ n w (by omega) (by omega) (by omega) h1 h2)
  have HFB : Hid (Calls Tryd.prog 33 #[.int .i64 ((s : Int) + 1 + 1), .int .i64 n] w (FitP (s + 1) n w)) := Lib.hid (fits256 s _ n w (by omega) hs h1 h2)
  have HO := Lib.hid ho
  have HB := Lib.hid hb
  have HE := Lib.hid hE
  clear hF hG ho hb hT hE
  go_enter Tryd.func35, Tryd.ntmps35
  go_wp2_with fail
  refine HFT.out.mono ?_
  unfold FitOP
  rw [HO.out]
  rintro e w1 ⟨rfl, rfl⟩
  go_wp2_with fail
  refine HFB.out.mono ?_
  unfold FitP
  rw [HB.out]
  rintro e w1 ⟨rfl, rfl⟩
  go_wp2_with fail
  refine HOC.out.mono ?_
  rintro e w2 ⟨rfl, a1, _, a3⟩
  have k1 := (a3.cell (p := ⟨1, 0, none⟩) HE.out.lg).trans HE.out.cell
  have f0 := a1.frozen 0
  have p0 : w2.cell? ⟨F, 0, none⟩ = some .nilIface := by rw [a1.cell]; rfl
  have HC : Hid (Blk (w2.setCell ⟨F, 0, none⟩ (errV a)) F 44 [errV a]) := Lib.hid (a1.set_ 0 (errV a))
  have HW : Hid (Below B w (w2.setCell ⟨F, 0, none⟩ (errV a))) := Lib.hid (a3.setCell (by exact hBF) _)
  unfold errV at k1 HC HW
  clear a1 a3
  go_wp2
  refine bodyPost_end (results_none rfl _ _ _) rfl ?_
  exact ⟨rfl, by rw [HC.out.cell]; rfl, HW.out⟩
end Go.Proofs.YtagjbndcbcepcaaDoor
