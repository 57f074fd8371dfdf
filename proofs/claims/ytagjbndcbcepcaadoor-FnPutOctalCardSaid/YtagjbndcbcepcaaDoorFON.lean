/- formatOctal where it does not fit. -/
import Derived.Test.YtagjbndcbcepcaaDoorFO
import Derived.Test.YtagjbndcbcepcaaDoorErr
namespace Go.Proofs.YtagjbndcbcepcaaDoor
open Go.RowKit Go.PlainAid
set_option linter.unusedVariables false

set_option maxHeartbeats 1600000 in
set_option maxRecDepth 20000 in
theorem formatOctal_no (F G m B : Nat) (w : World) (hF : Blk w F 44 [.nilIface]) (hG : Blk w G 5 (bys (zbs (m + 1)))) (hBF : B ≤ F) (hBG : B ≤ G) (hB : B ≤ w.heap.size) (hne : F ≠ G) (hm : 1 ≤ m) (hm2 : m ≤ 21)
    (z : Int) (hz : fitsO m z = false) (hz1 : -9223372036854775808 ≤ z) (hz2 : z ≤ 9223372036854775807) (hT : Tz8 w) {a : Addr} (hE : Err w.heap.size w 1 a) (hg : 9 ≠ F) :
    Calls Tryd.prog 34 #[.pointer (some ⟨F, 0, none⟩), .slice (some ⟨G, 0, none⟩) (m + 1) (m + 1), .int .i64 z] w (FOP F G m (errV a) 0 B w) := by
  have HF := Lib.hid (hF.set_ 0 (errV a))
  have HG := Lib.hid (hG.far (p := ⟨F, 0, none⟩) (Ne.symm hne) (errV a))
  have HB0 : Hid (Below B w (w.setCell ⟨F, 0, none⟩ (errV a))) := Lib.hid ((Below.refl B w).setCell hBF _)
  have hT2 : Tz8 (w.setCell ⟨F, 0, none⟩ (errV a)) := by
    have := (Below.refl F w).setCell (p := ⟨F, 0, none⟩) (Nat.le_refl _) (errV a)
    unfold Tz8 at hT ⊢
    rw [← hT]
    exact World.cell?_setCell_far w _ _ _ (by simpa using Ne.symm hg)
  have HI : Hid (Calls Tryd.prog 39 #[.int .i64 0, .int .i64 8] (w.setCell ⟨F, 0, none⟩ (errV a)) (FI8P 0 (w.setCell ⟨F, 0, none⟩ (errV a)))) := Lib.hid (formatInt8 0 _ (by omega) hT2)
  have HFT := Lib.hid (fits8 m ((m : Int) + 1) z w rfl hm hm2 hz1 hz2)
  have HFY := Lib.hid hz
  have HNm : Hid (0 < 8 ^ m) := Lib.hid (Nat.pow_pos (by omega))
  have k1 := hE.cell
  have f0 := hF.frozen 0
  have p0 : w.cell? ⟨F, 0, none⟩ = some .nilIface := by rw [hF.cell]; rfl
  unfold errV at k1 HF HG HB0 HI
  clear hF hG hT hT2 hz hE
  go_enter Tryd.func34, Tryd.ntmps34
  go_wp2_with fail
  refine HFT.out.mono ?_
  unfold FitOP
  rw [HFY.out]
  rintro e w1 ⟨rfl, rfl⟩
  go_wp2_with fail
  refine HI.out.mono ?_
  rintro e w1 ⟨t, ht, h1, h2, rfl, hb⟩
  have HB1 := Lib.hid hb
  have HF1 := Lib.hid (HF.out.below hb HF.out.lt)
  have HG1 := Lib.hid (HG.out.below hb HG.out.lt)
  have htm : t + 1 ≤ m := by
    rcases h1 with h1 | h1
    · omega
    · rcases Nat.lt_or_ge t m with h3 | h3
      · omega
      · have := Nat.pow_le_pow_right (n := 8) (by omega) h3
        have := HNm.out
        omega
  have H2 := Lib.hid h2
  have HSZ : Hid ((mkS (od (t + 1) ((0 : Nat) : Int))).size = t + 1) := Lib.hid (by rw [mkS_size, od_len])
  obtain ⟨S, hS⟩ : ∃ S, S = mkS (od (t + 1) ((0 : Nat) : Int)) := ⟨_, rfl⟩
  rw [← hS] at HSZ ⊢
  have HS := Lib.hid hS
  have hsz := HSZ.out
  clear hb h1 h2 hS
  by_cases hpad : t + 1 < m
  · have hpad' : (0 : Int) < (m : Int) + 1 - (S.size : Int) - 1 := by rw [hsz]; omega
    obtain ⟨k, hk⟩ : ∃ k : Nat, k = m - (t + 1) := ⟨_, rfl⟩
    have hkk : k + (t + 1) = m := by omega
    have HPAD : Hid (mkS (List.replicate k 48) ++ S = mkS (od m ((0 : Nat) : Int))) := Lib.hid (by rw [HS.out, mkS_app, od_pad 0 k (t + 1) H2.out, hkk])
    have HSM : Hid ((mkS (od m ((0 : Nat) : Int))).size = m) := Lib.hid (by rw [mkS_size, od_len])
    have HKS : Hid ((mkS (List.replicate k 48)).size = k) := Lib.hid (by rw [mkS_size, List.length_replicate])
    have HFM : Hid (∀ w', Blk w' F 44 [(.iface 115 (.pointer (some a)))] → Blk w' G 5 (bys (zbs (m + 1))) → Calls Tryd.prog 41 #[.pointer (some ⟨F, 0, none⟩), .slice (some ⟨G, 0, none⟩) (m + 1) (m + 1), .string (mkS (List.replicate k 48) ++ S)] w' (FOP F G m (.iface 115 (.pointer (some a))) 0 B w')) := Lib.hid (fun w' u1 u2 => by
      rw [HPAD.out]
      refine (fmtFits (.iface 115 (.pointer (some a))) F G (m + 1) B (mkS (od m ((0 : Nat) : Int))) w' u1 u2 hBF hBG hne (by omega) (by rw [HSM.out]; omega)).mono ?_
      rintro e w2 ⟨h1, h2, h3, h4⟩
      refine ⟨h1, h2, ?_, h4⟩
      have e := padS_one (od m ((0 : Nat) : Int))
      rw [od_len] at e
      rw [← e]
      exact h3)
    obtain ⟨Z, hZ⟩ : ∃ Z, Z = mkS (List.replicate k 48) := ⟨_, rfl⟩
    have HZ := Lib.hid hZ
    rw [← hZ] at HKS HFM
    clear hZ
    have hzs := HKS.out
    go_wp2_with fail
    refine (repeat_any k _ _ (by omega) (by omega) (by omega)).mono ?_
    rw [← HZ.out]
    rintro e w2 ⟨rfl, rfl⟩
    go_wp2_with fail
    refine (HFM.out _ HF1.out HG1.out).mono ?_
    rintro e w2 ⟨rfl, a1, a2, a3⟩
    have HA := Lib.hid (And.intro a1 (And.intro a2 a3))
    clear a1 a2 a3
    go_wp2
    refine bodyPost_end (results_none rfl _ _ _) rfl ?_
    exact ⟨rfl, HA.out.1, HA.out.2.1, (HB0.out.trans (HB1.out.mono (by simpa [World.setCell] using hB))).trans HA.out.2.2⟩
  · obtain rfl : m = t + 1 := by omega
    have hpad' : ¬ (1 : Int) < ((t + 1 : Nat) : Int) + 1 - ((t : Int) + 1) := by omega
    have hpad2 : ¬ (1 : Int) < (t : Int) + 1 + 1 - ((t : Int) + 1) := by omega
    have HSM : Hid ((mkS (od (t + 1) ((0 : Nat) : Int))).size = t + 1) := Lib.hid (by rw [mkS_size, od_len])
    have HFM : Hid (∀ w', Blk w' F 44 [(.iface 115 (.pointer (some a)))] → Blk w' G 5 (bys (zbs (t + 1 + 1))) → Calls Tryd.prog 41 #[.pointer (some ⟨F, 0, none⟩), .slice (some ⟨G, 0, none⟩) (t + 1 + 1) (t + 1 + 1), .string S] w' (FOP F G (t + 1) (.iface 115 (.pointer (some a))) 0 B w')) := Lib.hid (fun w' u1 u2 => by
      rw [HS.out]
      refine (fmtFits (.iface 115 (.pointer (some a))) F G (t + 1 + 1) B (mkS (od (t + 1) ((0 : Nat) : Int))) w' u1 u2 hBF hBG hne (by omega) (by rw [HSM.out]; omega)).mono ?_
      rintro e w2 ⟨h1, h2, h3, h4⟩
      refine ⟨h1, h2, ?_, h4⟩
      have e := padS_one (od (t + 1) ((0 : Nat) : Int))
      rw [od_len] at e
      rw [← e]
      exact h3)
    go_wp2_with fail
    refine (HFM.out _ HF1.out HG1.out).mono ?_
    rintro e w2 ⟨rfl, a1, a2, a3⟩
    have HA := Lib.hid (And.intro a1 (And.intro a2 a3))
    clear a1 a2 a3
    go_wp2
    refine bodyPost_end (results_none rfl _ _ _) rfl ?_
    exact ⟨rfl, HA.out.1, HA.out.2.1, (HB0.out.trans (HB1.out.mono (by simpa [World.setCell] using hB))).trans HA.out.2.2⟩
end Go.Proofs.YtagjbndcbcepcaaDoor
