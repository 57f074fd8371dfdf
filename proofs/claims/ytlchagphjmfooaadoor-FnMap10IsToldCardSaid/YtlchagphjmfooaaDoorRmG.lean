/- readGNUSparseMap1x0: its walk where the number of pieces is read. -/
import Derived.Test.YtlchagphjmfooaaDoorRmW
namespace Go.Proofs.YtlchagphjmfooaaDoor
open Go Go.RowKit Go.PlainAid
set_option linter.unusedVariables false

/-- What it does behind the number n of pieces: the first block is T0, a newline, E0. -/
def RmG (Br n : Nat) (D E0 : List UInt8) (w : World) (e : Ending) (w' : World) : Prop :=
  (∃ j L E, 512 * (j + 1) ≤ D.length ∧ (∀ i < j, nl E0 + nl ((D.drop 512).take (512 * i)) < 2 * n) ∧ E0 ++ (D.drop 512).take (512 * j) = ln L ++ E ∧ L.length = 2 * n ∧ (∀ l ∈ L, ∀ x ∈ l, x ≠ 10) ∧
    (((∀ l ∈ L, okT l) ∧ ∃ v, e = .returned (.tuple #[v, .nilIface]) ∧ w'.ownsRow w.heap.size 141 2 v n (pcs (prs L)) ∧ BrAt Br (D.drop (512 * (j + 1))) w' ∧ Below Br w w') ∨
     ((∃ l ∈ L, ¬ okT l) ∧ RmNo Br w e w'))) ∨
  (∃ j, 512 * (j + 1) ≤ D.length ∧ D.length < 512 * (j + 2) ∧ nl E0 + nl ((D.drop 512).take (512 * j)) < 2 * n ∧ RmNo Br w e w')
set_option maxRecDepth 20000 in
set_option maxHeartbeats 6400000 in
theorem rmGo {a b c c1 c2 : Addr} (Br n J : Nat) (D T E0 : List UInt8) (w : World) (hb : BrAt Br D w) (hE : Err Br w 2 a) (hE2 : Err Br w 3 b) (hE3 : Err Br w 0 c) (hE4 : Err Br w 6 c1) (hE5 : Err Br w 7 c2) (hD : 512 ≤ D.length) (hP : D.take 512 = T ++ 10 :: E0) (hT : ∀ x ∈ T, x ≠ 10) (hT5 : T.length ≤ 500) (hn : Lib.parseIntB 64 T = .ok (n : Int)) (hn1 : n ≤ 100)
    (hJ : J ≤ 1000) (hJ2 : (D.drop 512).length < 512 * (J + 1) ∨ 2 * n ≤ nl E0 + nl ((D.drop 512).take (512 * J))) :
    Calls Tryd.prog 67 #[.iface 126 (.pointer (some ⟨Br, 0, none⟩))] w (RmG Br n D E0 w) := by
  have hBr := hb.lt
  have hv := (vars0_below Tryd.zeroCells155 Br w).mono (Nat.le_of_lt hBr)
  have HF := Lib.hid (feed1 (vars0_feed hb) hBr (hE.below hv (Nat.le_refl _)) (hE2.below hv (Nat.le_refl _)) hD hP hT)
  have HB0 := Lib.hid (vars0_below Tryd.zeroCells155 Br w)
  have HV5 : Hid (w.heap.size ≤ (vars0 Tryd.zeroCells155 Br w).heap.size) := Lib.hid (vars0_below _ Br w).size
  have HT := Lib.hid hT
  have HE := Lib.hid hE
  have HE2 := Lib.hid hE2
  have HE3 := Lib.hid hE3
  have HE4 := Lib.hid hE4
  have HE5 := Lib.hid hE5
  have HJ2 := Lib.hid hJ2
  have HD := Lib.hid hD
  have HPN0 := Lib.hid hn
  have hlP : T.length + E0.length = 511 := by
    have h := congrArg List.length hP
    rw [List.length_take, List.length_append, List.length_cons] at h
    omega
  have HE1 : Hid (1 ≤ E0.length) := Lib.hid (by omega)
  have hq : nl E0 ≤ 512 := Nat.le_trans (nl_le E0) (by omega)
  have HL := Lib.hid hlP
  have hneq := fun w => run_eql_nil_nil_at (P := Tryd.prog) (w := w) 105 isErr
  have hneq2 := fun w x => run_eql_iface_nil (P := Tryd.prog) (w := w) 105 isErr 226 x
  have hneq3 := fun w x => run_eql_iface_nil (P := Tryd.prog) (w := w) 105 isErr 188 x
  obtain ⟨i0, hi, hz0, hz1, hz2⟩ := info_parts pinfo_entry
  have HI := Lib.hid (And.intro hi (And.intro hz0 (And.intro hz1 hz2)))
  have HB16 : Hid (i0.bytes * n ≤ 281474976710656) := Lib.hid (by rw [hz2]; omega)
  have n0 : ¬ (n : Int) < 0 := by omega
  have n0' : (0 : Int) ≤ (n : Int) := by omega
  obtain ⟨m, hm⟩ : ∃ m, m = 2 * n := ⟨_, rfl⟩
  have n1 : IntKind.i64.wrap (2 * (n : Int)) = (m : Int) := by rw [IntWalk.i64_in _ (by omega)]; omega
  have n2 : ¬ (m : Int) < (n : Int) := by omega
  have hm200 : m ≤ 200 := by omega
  have HMM := Lib.hid hm
  clear hb hE hE2 hE3 hE4 hE5 hv hP hT hJ2 hD hn hlP hi hz0 hz1 hz2 hm
  generalize hW0 : vars0 Tryd.zeroCells155 Br w = W0 at HF HB0 HV5
  unfold vars0 at hW0
  go_enter Tryd.func67, Tryd.ntmps67
  have HW0 := Lib.hid hW0
  clear hW0
  go_wp2_with fail
  rw [HW0.out]
  refine HF.out.mono ?_
  rintro e w1 ⟨rfl, hS⟩
  have HS := Lib.hid hS
  have hr1 : RB w1 0 none [] := fun h => by cases h
  clear hS HF hr1
  go_wp2_with fail
  refine (rmTok HS.out hBr HT.out (by omega) (by omega) (by omega)).mono ?_
  rintro e w2 ⟨rfl, htl, hS2, hf2⟩
  have hb2 : Below Br w w2 := rm_below HB0.out hBr hS2.far
  have hbr2 : Br ≤ w2.heap.size := Nat.le_trans (Nat.le_of_lt hBr) (hb2.size)
  have HB2 := Lib.hid hb2
  have HS2 := Lib.hid hS2
  have HPN := Lib.hid (parseInt_ok0 (mkS T) (n : Int) w2 (by rw [mkS_len]; omega) (by rw [mkS_list]; exact HPN0.out))
  clear hS2 hf2 hb2
  go_wp2_with fail
  refine HPN.out.mono ?_
  rintro e w3 ⟨rfl, hb3⟩
  have hS3 := HS2.out.below hBr (hb3.mono HS2.out.tps)
  have HB3 : Hid (Below Br w w3) := Lib.hid (HB2.out.trans (hb3.mono hbr2))
  have hF3 := hS3.feed0 HE1.out
  rw [show nl E0 + 1 - 1 = nl E0 by omega] at hF3
  have HFD := Lib.hid (feed Br w.heap.size (nl E0) 512 512 m J (D.drop 512) E0 w3 hF3 hBr (HE.out.below HB3.out (Nat.le_refl _)) (HE2.out.below HB3.out (Nat.le_refl _)) (by omega) (by rw [HMM.out]; exact HJ2.out) (by omega) (by omega) (by omega))
  have HFR := Lib.hid hS3.far
  clear hb3 hS3 hF3 HPN hbr2
  go_wp2_with fail
  refine HFD.out.mono ?_
  rintro e w4 (⟨j, hjJ, hjD, hnl, hmin, rfl, hS4⟩ | ⟨j, hjD, hj2, hlt, rfl, hf4⟩)
  · have HJD : Hid (512 * (j + 1) ≤ D.length) := Lib.hid (by rw [List.length_drop] at hjD; have := HD.out; omega)
    have HMIN : Hid (∀ i < j, nl E0 + nl ((D.drop 512).take (512 * i)) < 2 * n) := Lib.hid (by rw [← HMM.out]; exact hmin)
    obtain ⟨Q, hQ⟩ : ∃ Q, nl E0 + nl ((D.drop 512).take (512 * j)) = Q := ⟨_, rfl⟩
    obtain ⟨U, hU⟩ : ∃ U, E0 ++ (D.drop 512).take (512 * j) = U := ⟨_, rfl⟩
    have hDD : (D.drop 512).drop (512 * j) = D.drop (512 * (j + 1)) := by rw [List.drop_drop, show 512 + 512 * j = 512 * (j + 1) by omega]
    have hQU : nl U = Q := by rw [← hU, nl_append, hQ]
    have hS5 := hS4.rm hQ hU hDD (by rw [← hU, List.length_append]; have := HE1.out; omega)
    obtain ⟨L, E, hL, hLl, hLn⟩ := split_toks m U (by omega)
    rw [hL] at hS5
    have HL5 := Lib.hid hLl
    have HLN := Lib.hid hLn
    have HUU : Hid (E0 ++ (D.drop 512).take (512 * j) = ln L ++ E) := Lib.hid (by rw [hU, hL])
    have hG : 512 + 512 * j ≤ 1000000 := by omega
    obtain ⟨G, hG0⟩ : ∃ G, 512 + 512 * j = G := ⟨_, rfl⟩
    obtain ⟨tp, htp⟩ : ∃ tp, w4.heap.size = tp := ⟨_, rfl⟩
    rw [hG0] at hS5 hG
    rw [htp] at hS5
    have hQ6 : Q ≤ 10000000 := by
      have h1 := nl_le U
      have h2 : U.length ≤ 512 + 512 * j := by rw [← hU, List.length_append, List.length_take]; have := HL.out; omega
      omega
    have HQM : Hid (m ≤ Q) := Lib.hid (by omega)
    have HTP := Lib.hid htp
    have HS5 := Lib.hid hS5
    have HF5 : Hid (FarT (w.heap.size + 5) [Br, w.heap.size + 1, w.heap.size + 2, w.heap.size + 3, w.heap.size + 4] W0 w3) := HFR
    have HWP : Hid (w.heap.size ≤ tp) := Lib.hid (by have := hS5.top; omega)
    clear hS4 hjD hnl hmin hQ hU hDD hQU hS5 hL hLl hLn hG0 htp HFD HS HS2 HFR hjJ
    go_wp2_with (refine wpList_make_own _ (o := ⟨some 54, _, _, _, _, _⟩) rfl _ _ _ rfl tp 141 i0 _ 2 Tryd.underlying117 HI.out.1 HI.out.2.1 HI.out.2.2.1 _ _ (n : Int) n rfl rfl rfl HB16.out (by unfold maxLen; omega) (by rw [HTP.out]; exact Nat.le_refl _) ?_)
    intro w5 ho5 hg5
    have hb5 := grownBy_below hg5 (B := tp) (by rw [HTP.out]; exact Nat.le_refl _) (fun g h => by cases h)
    have HO5 := Lib.hid ho5
    have HS6 := Lib.hid (HS5.out.below hBr hb5)
    clear ho5 hg5 hb5 n1 n2
    go_wp2
    go_loopw [14, 15] (fun sp iv wr => ∃ (k q c8 : Nat) (A8 : Option Addr), k ≤ n ∧ q + 2 * k = Q ∧ iv = .int .i64 k ∧ sp = .slice A8 k c8 ∧ Hid (∀ i, i < 2 * k → okT (L.getD i [])) ∧ Hid (RmS Br w.heap.size tp q G G (D.drop (512 * (j + 1))) (ln (L.drop (2 * k)) ++ E) w3 wr) ∧ Hid (wr.ownsRow tp 141 2 (.slice A8 k c8) k (pcs ((prs L).take k)))) (fun _ iv _ => n - (intOf iv).toNat)
    case atStart => exact ⟨0, Q, n, some ⟨tp, 0, none⟩, by omega, by omega, rfl, by rw [← HTP.out], Lib.hid (fun i hi => by omega), Lib.hid (by rw [Nat.mul_zero, List.drop_zero]; exact HS6.out), Lib.hid (by rw [List.take_zero, ← HTP.out]; have h := HO5.out; rw [← HTP.out] at h; exact h)⟩
    case round =>
      obtain ⟨k, q, c8, A8, hk, hq2, rfl, rfl, HOK, HR, HO⟩ := hrel
      by_cases hlt : k < n
      · have hlL : 2 * k + 1 < L.length := by rw [HL5.out, HMM.out]; omega
        obtain ⟨T1, hT1⟩ : ∃ T1, T1 = L.getD (2 * k) [] := ⟨_, rfl⟩
        obtain ⟨T2, hT2⟩ : ∃ T2, T2 = L.getD (2 * k + 1) [] := ⟨_, rfl⟩
        have hm1 : T1 ∈ L := by rw [hT1]; exact getD_mem L _ (by omega)
        have hm2 : T2 ∈ L := by rw [hT2]; exact getD_mem L _ hlL
        have hR := HR.out
        rw [drop_two L k hlL, ← hT1, ← hT2, show ln (T1 :: T2 :: L.drop (2 * (k + 1))) ++ E = T1 ++ 10 :: (T2 ++ 10 :: (ln (L.drop (2 * (k + 1))) ++ E)) by simp [ln]] at hR
        have HTK : Hid ((prs L).take (k + 1) = (prs L).take k ++ [(pv T1, pv T2)]) := Lib.hid (by rw [prs_take k L hlL, ← hT1, ← hT2])
        have hqq : 2 ≤ q := by have := HQM.out; have := HMM.out; omega
        have HTO1 := Lib.hid (rmTok hR hBr (HLN.out T1 hm1) (by omega) (by omega) (by omega))
        have HM1 := Lib.hid hm1
        have HM2 := Lib.hid hm2
        have HT1 := Lib.hid hT1
        have HT2 := Lib.hid hT2
        have hz := HR.out.tps
        have htp5 := HR.out.top
        clear hR hm1 hm2 hT1 hT2
        go_wp2_with fail
        refine HTO1.out.mono ?_
        rintro e w6 ⟨rfl, hl1, hS6, hf6⟩
        have HS6 := Lib.hid hS6
        have HO6 := Lib.hid (own_of_far HO.out hf6 (fun k hk => by
          have h1 := (HO.out.lt k hk).1
          simp
          omega))
        have hz6 := hS6.tps
        have hB6 : Below Br w w6 := HB3.out.trans (hS6.far.below (fun k hk => by simp at hk; omega) (by omega))
        have HE4w := Lib.hid (HE4.out.below hB6 (Nat.le_refl _))
        have HE5w := Lib.hid (HE5.out.below hB6 (Nat.le_refl _))
        have HE3w := Lib.hid (HE3.out.below hB6 (Nat.le_refl _))
        have HB6 := Lib.hid hB6
        have hbrz : Br ≤ w6.heap.size := by omega
        clear hS6 hf6 hB6 HTO1
        have hs1 : (mkS T1).size ≤ 281474976710656 := by rw [mkS_len]; omega
        by_cases hok1 : okT T1
        · have HP1 := Lib.hid (parseInt_ok64 (mkS T1) (pv T1) w6 hs1 (by rw [mkS_list]; exact hok1.val))
          have HOK1 := Lib.hid hok1
          clear hok1 hs1
          go_wp2_with fail
          refine HP1.out.mono ?_
          rintro e w7 ⟨rfl, hb7⟩
          have hR7 := HS6.out.below hBr (hb7.mono hz6)
          have HO7 := Lib.hid (own_below HO6.out hb7 (Nat.le_refl _))
          have HB7 : Hid (Below Br w w7) := Lib.hid (HB6.out.trans (hb7.mono hbrz))
          have HTO2 := Lib.hid (rmTok hR7 hBr (HLN.out T2 HM2.out) (by omega) (by omega) (by omega))
          clear hb7 hR7 HP1
          go_wp2_with fail
          refine HTO2.out.mono ?_
          rintro e w8 ⟨rfl, hl2, hS8, hf8⟩
          have HS8 := Lib.hid hS8
          have HO8 := Lib.hid (own_of_far HO7.out hf8 (fun k hk => by
            have h1 := (HO7.out.lt k hk).1
            simp
            omega))
          have hz8 := hS8.tps
          have hB8 : Below Br w w8 := HB3.out.trans (hS8.far.below (fun k hk => by simp at hk; omega) (by omega))
          have HB8 := Lib.hid hB8
          have HE4x := Lib.hid (HE4.out.below hB8 (Nat.le_refl _))
          have HE5x := Lib.hid (HE5.out.below hB8 (Nat.le_refl _))
          have hbrz8 : Br ≤ w8.heap.size := by omega
          have hs2 : (mkS T2).size ≤ 281474976710656 := by rw [mkS_len]; omega
          clear hS8 hf8 hB8 HTO2
          by_cases hok2 : okT T2
          · have HP2 := Lib.hid (parseInt_ok64 (mkS T2) (pv T2) w8 hs2 (by rw [mkS_list]; exact hok2.val))
            have HOKN : Hid (∀ i, i < 2 * (k + 1) → okT (L.getD i [])) := Lib.hid (fun i hi => by
              by_cases e1 : i = 2 * k
              · rw [e1, ← HT1.out]; exact HOK1.out
              · by_cases e2 : i = 2 * k + 1
                · rw [e2, ← HT2.out]; exact hok2
                · exact HOK.out i (by omega))
            clear hok2 hs2
            obtain ⟨v1, hv1⟩ : ∃ v1, pv T1 = v1 := ⟨_, rfl⟩
            obtain ⟨v2, hv2⟩ : ∃ v2, pv T2 = v2 := ⟨_, rfl⟩
            rw [hv1, hv2] at HTK
            rw [hv1]
            rw [hv2] at HP2
            clear hv1 hv2
            go_wp2_with fail
            refine HP2.out.mono ?_
            rintro e w9 ⟨rfl, hb9⟩
            have HS9 := Lib.hid (HS8.out.below hBr (hb9.mono hz8))
            have HO9 := Lib.hid (own_below HO8.out hb9 (Nat.le_refl _))
            have hz9 := hb9.size
            clear hb9 HP2
            go_wp2_with fail
            refine (appendEntry A8 k c8 tp ((prs L).take k) v1 v2 _ HO9.out (by omega) (by omega)).mono ?_
            rintro e w10 ⟨v', rfl, ho10, hb10⟩
            obtain ⟨A9, c9, rfl, _, _, _⟩ := own_form ho10
            have HO10 : Hid (w10.ownsRow tp 141 2 (.slice A9 (k + 1) c9) (k + 1) (pcs ((prs L).take (k + 1)))) := Lib.hid (by rw [HTK.out]; exact ho10)
            have HS10 := Lib.hid (HS9.out.below hBr hb10)
            clear ho10 hb10
            go_wp2
            go_roundw
            case rel => exact ⟨k + 1, q - 1 - 1, c9, A9, by omega, by omega, by go_num, rfl, HOKN, HS10, HO10⟩
            case measure => simp [intOf]; omega
          · have HP2 := Lib.hid (parseInt_no64 (mkS T2) w8 hs2 (by rw [mkS_list]; exact not_okT hok2) HE4x.out HE5x.out)
            have HNO2 : Hid (∃ l ∈ L, ¬ okT l) := Lib.hid ⟨T2, HM2.out, hok2⟩
            clear hok2 hs2
            go_wp2_with fail
            refine HP2.out.mono ?_
            rintro e w9 ⟨x, N, rfl, hb9⟩
            have HB9 : Hid (Below Br w w9) := Lib.hid (HB8.out.trans (hb9.mono hbrz8))
            have k1 := (HE3.out.below HB9.out (Nat.le_refl _)).cell
            unfold errV at k1
            clear hb9 HP2
            go_wp2
            go_region
            go_wp2
            go_ret2
            exact .inl ⟨j, L, E, HJD.out, HMIN.out, HUU.out, by rw [HL5.out, HMM.out], HLN.out, .inr ⟨HNO2.out, ⟨c, rfl⟩, HB9.out.drew⟩⟩
        · have HP1 := Lib.hid (parseInt_no64 (mkS T1) w6 hs1 (by rw [mkS_list]; exact not_okT hok1) HE4w.out HE5w.out)
          have HNO1 : Hid (∃ l ∈ L, ¬ okT l) := Lib.hid ⟨T1, HM1.out, hok1⟩
          clear hok1 hs1
          go_wp2_with fail
          refine HP1.out.mono ?_
          rintro e w7 ⟨x, N, rfl, hb7⟩
          have hR7 := HS6.out.below hBr (hb7.mono hz6)
          have HTO2 := Lib.hid (rmTok hR7 hBr (HLN.out T2 HM2.out) (by omega) (by omega) (by omega))
          clear hb7 hR7 HP1
          go_wp2_with fail
          refine HTO2.out.mono ?_
          rintro e w8 ⟨rfl, hl2, hS8, hf8⟩
          have hB8 : Below Br w w8 := HB3.out.trans (hS8.far.below (fun k hk => by simp at hk; omega) (by omega))
          have HB8 := Lib.hid hB8
          have hbrz8 : Br ≤ w8.heap.size := by have := hB8.size; omega
          have HE4x := Lib.hid (HE4.out.below hB8 (Nat.le_refl _))
          have HE5x := Lib.hid (HE5.out.below hB8 (Nat.le_refl _))
          have hs2 : (mkS T2).size ≤ 281474976710656 := by rw [mkS_len]; omega
          have HP2 : Hid (Calls Tryd.prog 73 #[.string (mkS T2), .int .i64 10, .int .i64 64] w8 fun e w' => ∃ (x : Int) (y : Value), e = .returned (.tuple #[.int .i64 x, y]) ∧ Below w8.heap.size w8 w') := Lib.hid (by
            by_cases hok2 : okT T2
            · refine (parseInt_ok64 (mkS T2) (pv T2) w8 hs2 (by rw [mkS_list]; exact hok2.val)).mono ?_
              rintro e w' ⟨rfl, h⟩
              exact ⟨_, _, rfl, h⟩
            · refine (parseInt_no64 (mkS T2) w8 hs2 (by rw [mkS_list]; exact not_okT hok2) HE4x.out HE5x.out).mono ?_
              rintro e w' ⟨x, N, rfl, h⟩
              exact ⟨_, _, rfl, h⟩)
          clear hS8 hf8 hB8 HTO2 hs2
          go_wp2_with fail
          refine HP2.out.mono ?_
          rintro e w9 ⟨x2, y2, rfl, hb9⟩
          have HB9 : Hid (Below Br w w9) := Lib.hid (HB8.out.trans (hb9.mono hbrz8))
          have k1 := (HE3.out.below HB9.out (Nat.le_refl _)).cell
          unfold errV at k1
          clear hb9 HP2
          go_wp2
          go_region
          go_wp2
          go_ret2
          exact .inl ⟨j, L, E, HJD.out, HMIN.out, HUU.out, by rw [HL5.out, HMM.out], HLN.out, .inr ⟨HNO1.out, ⟨c, rfl⟩, HB9.out.drew⟩⟩
      · obtain rfl : k = n := by omega
        have HALL : Hid (∀ l ∈ L, okT l) := Lib.hid (fun l hl => by
          obtain ⟨i, hi, rfl⟩ := List.getElem_of_mem hl
          have h1 := HOK.out i (by rw [HL5.out, HMM.out] at hi; omega)
          rwa [List.getD_eq_getElem?_getD, List.getElem?_eq_getElem hi] at h1)
        have HOE : Hid (wr.ownsRow w.heap.size 141 2 (.slice A8 k c8) k (pcs (prs L))) := Lib.hid (by
          have h := HO.out
          rw [List.take_of_length_le (by rw [prs_len k L (by rw [HL5.out, HMM.out])]; exact Nat.le_refl _)] at h
          exact own_base h HWP.out)
        have HBE : Hid (Below Br w wr) := Lib.hid (HB3.out.trans (HR.out.far.below (fun k hk => by simp at hk; omega) (by omega)))
        go_wp2
        go_ret2
        exact .inl ⟨j, L, E, HJD.out, HMIN.out, HUU.out, by rw [HL5.out, HMM.out], HLN.out, .inl ⟨HALL.out, _, rfl, HOE.out, HR.out.br, HBE.out⟩⟩
  · have HEND : Hid (Below Br w w4) := Lib.hid (HB3.out.trans (hf4.below (fun k hk => by simp at hk; omega) (by omega)))
    have HJX : Hid (512 * (j + 1) ≤ D.length ∧ D.length < 512 * (j + 2) ∧ nl E0 + nl ((D.drop 512).take (512 * j)) < 2 * n) := Lib.hid (by
      rw [List.length_drop] at hjD hj2
      have := HD.out
      have := HMM.out
      exact ⟨by omega, by omega, by omega⟩)
    unfold errV
    clear hf4 hjD hj2 hlt HFD
    go_wp2
    go_ret2
    exact .inr ⟨j, HJX.out.1, HJX.out.2.1, HJX.out.2.2, ⟨b, rfl⟩, HEND.out⟩
end Go.Proofs.YtlchagphjmfooaaDoor
