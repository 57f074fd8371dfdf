/- formatOctal. -/
import Derived.Test.YtagjbndcbcepcaaDoorFS
import Derived.Test.YtagjbndcbcepcaaDoorFI8
import Derived.Test.YtagjbndcbcepcaaDoorRep0
namespace Go.Proofs.YtagjbndcbcepcaaDoor
open Go.RowKit Go.PlainAid
set_option linter.unusedVariables false

theorem mkS_size (l : List UInt8) : (mkS l).size = l.length := by show l.toArray.size = _; simp
theorem mkS_data (l : List UInt8) : (mkS l).data.toList = l := by simp [mkS]
theorem padS_one (l : List UInt8) : padS (mkS l) (l.length + 1) = l ++ [0] := by
  unfold padS
  rw [mkS_data, List.take_of_length_le (by omega)]
  simp [splice, zbs]
theorem mkS_app (a b : List UInt8) : mkS a ++ mkS b = mkS (a ++ b) := by
  apply ByteArray.ext
  simp [mkS]
/-- The digits written: the way behind the test of room. -/
def FOP (F G m : Nat) (v : Value) (N : Nat) (B : Nat) (w : World) (e : Ending) (w' : World) : Prop :=
  e = .returned (.tuple #[]) ∧ Blk w' F 44 [v] ∧ Blk w' G 5 (bys (od m (N : Int) ++ [0])) ∧ Below B w w'
set_option maxHeartbeats 1600000 in
set_option maxRecDepth 20000 in
theorem formatOctal_yes (F G m B N : Nat) (w : World) (hF : Blk w F 44 [.nilIface]) (hG : Blk w G 5 (bys (zbs (m + 1)))) (hBF : B ≤ F) (hBG : B ≤ G) (hB : B ≤ w.heap.size) (hne : F ≠ G) (hm : 1 ≤ m) (hm2 : m ≤ 21)
    (hN : N < 8 ^ m) (hN2 : N < 9223372036854775808) (hT : Tz8 w) :
    Calls Tryd.prog 34 #[.pointer (some ⟨F, 0, none⟩), .slice (some ⟨G, 0, none⟩) (m + 1) (m + 1), .int .i64 (N : Int)] w (FOP F G m .nilIface N B w) := by
  have HF := Lib.hid hF
  have HG := Lib.hid hG
  have HI := Lib.hid (formatInt8 N w hN2 hT)
  have HFT := Lib.hid (fits8 m ((m : Int) + 1) (N : Int) w rfl hm hm2 (by omega) (by omega))
  have HFY : Hid (fitsO m (N : Int) = true) := Lib.hid (fitsO_yes rfl (by omega) (Int.ofNat_lt.2 hN))
  have HNm := Lib.hid hN
  clear hF hG hT hN
  go_enter Tryd.func34, Tryd.ntmps34
  go_wp2_with fail
  refine HFT.out.mono ?_
  unfold FitOP
  rw [HFY.out]
  rintro e w1 ⟨rfl, rfl⟩
  go_wp2_with fail
  refine HI.out.mono ?_
  rintro e w1 ⟨t, ht, h1, h2, rfl, hb⟩
  have HB1 := Lib.hid hb
  have HF1 := Lib.hid (HF.out.below hb HF.out.lt)
  have HG1 := Lib.hid (HG.out.below hb HG.out.lt)
  have htm : t + 1 ≤ m := by
    rcases h1 with h1 | h1
    · omega
    · rcases Nat.lt_or_ge t m with h3 | h3
      · omega
      · have := Nat.pow_le_pow_right (n := 8) (by omega) h3
        have := HNm.out
        omega
  have H2 := Lib.hid h2
  have HSZ : Hid ((mkS (od (t + 1) (N : Int))).size = t + 1) := Lib.hid (by rw [mkS_size, od_len])
  obtain ⟨S, hS⟩ : ∃ S, S = mkS (od (t + 1) (N : Int)) := ⟨_, rfl⟩
  rw [← hS] at HSZ ⊢
  have HS := Lib.hid hS
  have hsz := HSZ.out
  clear hb h1 h2 hS
  by_cases hpad : t + 1 < m
  · have hpad' : (0 : Int) < (m : Int) + 1 - (S.size : Int) - 1 := by rw [hsz]; omega
    obtain ⟨k, hk⟩ : ∃ k : Nat, k = m - (t + 1) := ⟨_, rfl⟩
    have hkk : k + (t + 1) = m := by omega
    have HPAD : Hid (mkS (List.replicate k 48) ++ S = mkS (od m (N : Int))) := Lib.hid (by rw [HS.out, mkS_app, od_pad N k (t + 1) H2.out, hkk])
    have HSM : Hid ((mkS (od m (N : Int))).size = m) := Lib.hid (by rw [mkS_size, od_len])
    have HKS : Hid ((mkS (List.replicate k 48)).size = k) := Lib.hid (by rw [mkS_size, List.length_replicate])
    have HFM : Hid (∀ w', Blk w' F 44 [.nilIface] → Blk w' G 5 (bys (zbs (m + 1))) → Calls Tryd.prog 41 #[.pointer (some ⟨F, 0, none⟩), .slice (some ⟨G, 0, none⟩) (m + 1) (m + 1), .string (mkS (List.replicate k 48) ++ S)] w' (FOP F G m .nilIface N B w')) := Lib.hid (fun w' a b => by
      rw [HPAD.out]
      refine (fmtFits .nilIface F G (m + 1) B (mkS (od m (N : Int))) w' a b hBF hBG hne (by omega) (by rw [HSM.out]; omega)).mono ?_
      rintro e w2 ⟨h1, h2, h3, h4⟩
      refine ⟨h1, h2, ?_, h4⟩
      have e := padS_one (od m (N : Int))
      rw [od_len] at e
      rw [← e]
      exact h3)
    obtain ⟨Z, hZ⟩ : ∃ Z, Z = mkS (List.replicate k 48) := ⟨_, rfl⟩
    have HZ := Lib.hid hZ
    rw [← hZ] at HKS HFM
    clear hZ
    have hzs := HKS.out
    go_wp2_with fail
    refine (repeat_any k _ _ (by omega) (by omega) (by omega)).mono ?_
    rw [← HZ.out]
    rintro e w2 ⟨rfl, rfl⟩
    go_wp2_with fail
    refine (HFM.out _ HF1.out HG1.out).mono ?_
    rintro e w2 ⟨rfl, a1, a2, a3⟩
    have HA := Lib.hid (And.intro a1 (And.intro a2 a3))
    clear a1 a2 a3
    go_wp2
    refine bodyPost_end (results_none rfl _ _ _) rfl ?_
    exact ⟨rfl, HA.out.1, HA.out.2.1, (HB1.out.mono hB).trans HA.out.2.2⟩
  · obtain rfl : m = t + 1 := by omega
    have hpad' : ¬ (1 : Int) < ((t + 1 : Nat) : Int) + 1 - ((t : Int) + 1) := by omega
    have hpad2 : ¬ (1 : Int) < (t : Int) + 1 + 1 - ((t : Int) + 1) := by omega
    have HSM : Hid ((mkS (od (t + 1) (N : Int))).size = t + 1) := Lib.hid (by rw [mkS_size, od_len])
    have HFM : Hid (∀ w', Blk w' F 44 [.nilIface] → Blk w' G 5 (bys (zbs (t + 1 + 1))) → Calls Tryd.prog 41 #[.pointer (some ⟨F, 0, none⟩), .slice (some ⟨G, 0, none⟩) (t + 1 + 1) (t + 1 + 1), .string S] w' (FOP F G (t + 1) .nilIface N B w')) := Lib.hid (fun w' a b => by
      rw [HS.out]
      refine (fmtFits .nilIface F G (t + 1 + 1) B (mkS (od (t + 1) (N : Int))) w' a b hBF hBG hne (by omega) (by rw [HSM.out]; omega)).mono ?_
      rintro e w2 ⟨h1, h2, h3, h4⟩
      refine ⟨h1, h2, ?_, h4⟩
      have e := padS_one (od (t + 1) (N : Int))
      rw [od_len] at e
      rw [← e]
      exact h3)
    go_wp2_with fail
    refine (HFM.out _ HF1.out HG1.out).mono ?_
    rintro e w2 ⟨rfl, a1, a2, a3⟩
    have HA := Lib.hid (And.intro a1 (And.intro a2 a3))
    clear a1 a2 a3
    go_wp2
    refine bodyPost_end (results_none rfl _ _ _) rfl ?_
    exact ⟨rfl, HA.out.1, HA.out.2.1, (HB1.out.mono hB).trans HA.out.2.2⟩
end Go.Proofs.YtagjbndcbcepcaaDoor
