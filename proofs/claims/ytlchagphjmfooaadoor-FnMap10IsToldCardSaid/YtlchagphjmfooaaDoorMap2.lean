/- appendSparseEntry; readGNUSparseMap0x1 at the records of a map. -/
import Derived.Test.YtlchagphjmfooaaDoorMap1
import Derived.Test.YtlchagphjmfooaaDoorMapL
import Derived.Test.YtlchagphjmfooaaDoorParse
import Derived.Test.YtlchagphjmfooaaDoorR
namespace Go.Proofs.YtlchagphjmfooaaDoor
open Go.RowKit Go.PlainAid Go.Maps Go.ChangeMaps Go.MapKept Go.WideMaps
set_option linter.unusedVariables false

theorem pinfo_entry : (Tryd.prog.info? 141).map (fun i => (i.zero, i.size, i.bytes)) = some (some (.agg #[.int .i64 0, .int .i64 0]), 2, 16) := by kernel_rfl
set_option maxRecDepth 20000 in
set_option maxHeartbeats 800000 in
theorem appendEntry (A : Option Addr) (n c base : Nat) (ps : List (Int × Int)) (x y : Int) (w : World) (hown : w.ownsRow base 141 2 (.slice A n c) n (pcs ps)) (hb : base ≤ w.heap.size) (hn : n < 1000000) :
    Calls Tryd.prog 77 #[.slice A n c, .agg #[.int .i64 x, .int .i64 y]] w fun e w' => ∃ v', e = .returned (.tuple #[v', .nilIface]) ∧ w'.ownsRow base 141 2 v' (n + 1) (pcs (ps ++ [(x, y)])) ∧ Below base w w' := by
  have HO := Lib.hid hown
  have HB1 := Lib.hid (((Below.refl base w).alloc hb (.cells #[.int .i64 x, .int .i64 y] 141)).alloc (by simp; omega) (.cells #[.int .i64 x, .int .i64 y] 141))
  have hn' : ¬ (1048576 : Int) ≤ (n : Int) := by omega
  clear hown
  go_enter Tryd.func77, Tryd.ntmps77
  go_wp2_with (refine wpList_append_rc (o := ⟨some 13, _, _, _, _, _⟩) _ rfl (.tmp 10) (.tmp 12) _ rfl base 141 _ 2 16 Tryd.underlying117 pinfo_entry rfl (by omega) _ n _ rfl ((HO.out.alloc _).alloc _) _ 1 1 _ _ rfl rfl (rc_new2 _ _ _ _) (two_one _ _) (by omega) (by omega) (by simp; omega) ?_)
  intro v' w1 h1 h2 h3
  have H1 : Hid (w1.ownsRow base 141 2 v' (n + 1) (pcs (ps ++ [(x, y)]))) := Lib.hid (by rw [pcs_append]; exact h1.out)
  have H2 := Lib.hid (HB1.out.grown h2.out (by simp; omega) (fun g hg => (HO.out.lt g hg).1))
  clear h1 h2 h3
  go_wp2
  go_ret2
  exact ⟨v', rfl, H1.out, H2.out⟩

def Read01 (ps : List (Int × Int)) (w : World) (e : Ending) (w' : World) : Prop :=
  ∃ v, e = .returned (.tuple #[v, .nilIface]) ∧ w'.ownsRow w.heap.size 141 2 v ps.length (pcs ps) ∧ Below w.heap.size w w'
theorem parse_num (m : Nat) (hm : m ≤ 9223372036854775807) : Lib.parseIntB 64 (numB m).data.toList = .ok (m : Int) := by
  have e : (numB m).data.toList = numL m := by simp [numB]
  have hp : numL m ≠ [] := List.length_pos_iff.1 (numL_pos m)
  rw [e, intB_plain hp (numL_dig m) (by rw [numL_vl]; exact hm), numL_vl]
theorem mkS_numL (m : Nat) : mkS (numL m) = numB m := rfl
theorem keys_ne : keyNum.data.toList ≠ keyMap.data.toList := by decide

/-- A row of strings, as zzSplit leaves it. -/
def SplitP (m : Nat) (ps : List (Int × Int)) (w : World) (e : Ending) (w' : World) : Prop :=
  ∃ A c, e = .returned (.slice A m c) ∧ m ≤ c ∧ RC w' w'.heap.size A (strs (nmL ps)) ∧ Below w.heap.size w w'
theorem zzSplit_nm (ps : List (Int × Int)) (m : Nat) (w : World) (hS : SmallP ps) (h1 : 1 ≤ ps.length) (hm : m = 2 * ps.length) :
    Calls Tryd.prog 76 #[.string (mkS (jn (nmL ps))), .string ⟨#[44]⟩] w (SplitP m ps w) := by
  have hl := nmL_len ps
  refine (zzSplit_jn (nmL ps) w (fun h => by rw [h] at hl; simp at hl; omega) (nmL_no44 ps) (by have := hS.jn_le; omega)).mono ?_
  rintro e w' ⟨v, rfl, hown, hb⟩
  obtain ⟨A, c, rfl, _, hnc, _⟩ := own_form hown
  rw [show (nmL ps).length = m by omega] at hown hnc ⊢
  exact ⟨A, c, rfl, hnc, RC.of_own hown, hb⟩
theorem own_base {w : World} {base b n : Nat} {e : TypeId} {size : Nat} {v : Value} {xs : List Value} (h : w.ownsRow base e size v n xs) (hb : b ≤ base) : w.ownsRow b e size v n xs := by
  refine ⟨h.1, ?_⟩
  rcases h.2 with h2 | ⟨g, cap, cur, hv, hg, r⟩
  · exact .inl h2
  · exact .inr ⟨g, cap, cur, hv, by omega, r⟩
theorem nmL_at1 : ∀ (ps : List (Int × Int)) (k : Nat), k < ps.length → (nmL ps)[2 * k]? = some (numL (po ps k).toNat)
  | p :: ps, 0, _ => rfl
  | p :: ps, k + 1, h => by
    rw [show 2 * (k + 1) = 2 * k + 1 + 1 by omega]
    simp only [nmL, List.getElem?_cons_succ]
    rw [nmL_at1 ps k (by simpa using h)]
    rfl
theorem nmL_at2 : ∀ (ps : List (Int × Int)) (k : Nat), k < ps.length → (nmL ps)[2 * k + 1]? = some (numL (pl ps k).toNat)
  | p :: ps, 0, _ => rfl
  | p :: ps, k + 1, h => by
    rw [show 2 * (k + 1) + 1 = 2 * k + 1 + 1 + 1 by omega]
    simp only [nmL, List.getElem?_cons_succ]
    rw [nmL_at2 ps k (by simpa using h)]
    rfl
def sliceLen : Value → Nat
  | .slice _ n _ => n
  | _ => 0

set_option maxRecDepth 20000 in
set_option maxHeartbeats 6400000 in
theorem readMap01 (b nn : Nat) (ps : List (Int × Int)) (w : World) (hown : w.ownsMap Tryd.prog 9 (plainElem Tryd.prog 9) b nn (mapOf (map01 ps))) (hS : SmallP ps) (h1 : 1 ≤ ps.length) :
    Calls Tryd.prog 59 #[.map (some b)] w (Read01 ps w) := by
  have hbw := hown.lt
  have HM := Lib.hid hown
  have HA1 := fun z => Lib.hid (mapOf_two (k1 := keyNum) (k2 := keyMap) (v1 := numB ps.length) (v2 := mkS (jn (nmL ps))) keys_ne z)
  obtain ⟨n, hn⟩ : ∃ n, ps.length = n := ⟨_, rfl⟩
  have hn100 : n ≤ 100 := by have := hS.1; omega
  have hn1 : 1 ≤ n := by omega
  have HN := Lib.hid hn
  have HS := Lib.hid hS
  obtain ⟨m, hm⟩ : ∃ m, m = 2 * n := ⟨_, rfl⟩
  have m1 : ((m : Int) == 1) = false := by rw [beq_eq_false_iff_ne]; omega
  have m1' : ((m : Int) != 1) = true := by rw [bne_iff_ne]; omega
  have m2 : ((m : Int) != 2 * (n : Int)) = false := by rw [bne_eq_false_iff_eq]; omega
  have m3 : ((m : Int) == 2 * (n : Int)) = true := by rw [beq_iff_eq]; omega
  have HMM := Lib.hid hm
  have hm200 : m ≤ 200 := by omega
  have n0 : ¬ (n : Int) < 0 := by omega
  have n0' : (0 : Int) ≤ (n : Int) := by omega
  have n2 : ¬ 2 * (n : Int) < (n : Int) := by omega
  have HSP : Hid (∀ w, Calls Tryd.prog 76 #[.string (mkS (jn (nmL ps))), .string ⟨#[44]⟩] w (SplitP m ps w)) := Lib.hid (fun w => zzSplit_nm ps m w hS h1 (by omega))
  obtain ⟨i0, hi, hz0, hz1, hz2⟩ := info_parts pinfo_entry
  have HI := Lib.hid (And.intro hi (And.intro hz0 (And.intro hz1 hz2)))
  have HB16 : Hid (i0.bytes * n ≤ 281474976710656) := Lib.hid (by rw [hz2]; omega)
  have HK1 : Hid (keyOf Tryd.prog 9 (.string ⟨#[71, 78, 85, 46, 115, 112, 97, 114, 115, 101, 46, 110, 117, 109, 98, 108, 111, 99, 107, 115]⟩) = some (.string keyNum.data.toList)) := Lib.hid (keyOf_string_mk Tryd.underlying9 (s := keyNum) (by unfold maxLen; decide))
  have HK2 : Hid (keyOf Tryd.prog 9 (.string ⟨#[71, 78, 85, 46, 115, 112, 97, 114, 115, 101, 46, 109, 97, 112]⟩) = some (.string keyMap.data.toList)) := Lib.hid (keyOf_string_mk Tryd.underlying9 (s := keyMap) (by unfold maxLen; decide))
  have HPN := Lib.hid (parse_num n (by omega))
  have HNS : Hid ((numB n).size ≤ 281474976710656) := Lib.hid (by rw [numB_size]; have := numL_le19 (n := n) (by omega); omega)
  clear hown hn hS h1 hm hi hz0 hz1 hz2
  go_enter Tryd.func59, Tryd.ntmps59
  go_wp2_with (at_lookup; refine wpList_lookup_own_str _ rfl _ _ 115 rfl 9 9 strKeyed Tryd.underlying115 Tryd.underlying9 (zeroStr _) b nn _ rfl HM.out _ _ rfl HK1.out ?_)
  intro s hat _
  obtain rfl : s = numB n := ba_ext (by
    have h := hat.symm.trans (HA1 _).out.1
    rw [HN.out] at h
    injection h with h
    injection h with h)
  clear hat
  go_wp2_with fail
  refine (parseInt_ok0 (numB n) _ _ HNS.out HPN.out).mono ?_
  rintro e w1 ⟨rfl, hb1⟩
  have HB1 := Lib.hid hb1
  have HM1 := Lib.hid (ownsMap_below HM.out hb1 hbw)
  have hbw1 : b < w1.heap.size := Nat.lt_of_lt_of_le hbw hb1.size
  clear hb1
  go_wp2_with (at_lookup; refine wpList_lookup_own_str _ rfl _ _ 115 rfl 9 9 strKeyed Tryd.underlying115 Tryd.underlying9 (zeroStr _) b nn _ rfl HM1.out _ _ rfl HK2.out ?_)
  intro s hat _
  obtain rfl : s = mkS (jn (nmL ps)) := ba_ext (by
    have h := hat.symm.trans (HA1 _).out.2
    injection h with h
    injection h with h)
  clear hat
  go_wp2_with fail
  refine (HSP.out _).mono ?_
  rintro e w2 ⟨A, c, rfl, hmc, hrc, hb2⟩
  have HB2 : Hid (Below w.heap.size w w2) := Lib.hid (HB1.out.trans (hb2.mono HB1.out.size))
  have HRC := Lib.hid hrc
  have HBW2 := Lib.hid HB2.out.size
  clear hrc hb2 HM HM1 HA1 hbw hbw1
  go_wp2_with (refine wpList_make_own _ (o := ⟨some 54, _, _, _, _, _⟩) rfl _ _ _ rfl w2.heap.size 141 i0 _ 2 Tryd.underlying117 HI.out.1 HI.out.2.1 HI.out.2.2.1 _ _ (n : Int) n rfl rfl rfl HB16.out (by unfold maxLen; omega) (Nat.le_refl _) ?_)
  intro w3 ho3 hg3
  have HO3 := Lib.hid ho3
  have HB3 := Lib.hid (grownBy_below hg3 (Nat.le_refl _) (fun g h => by cases h))
  have HR3 := Lib.hid (HRC.out.below HB3.out)
  have HS3 : Hid (w2.heap.size ≤ w3.heap.size) := Lib.hid HB3.out.size
  obtain ⟨BS, hBS⟩ : ∃ BS, BS = w2.heap.size := ⟨_, rfl⟩
  rw [← hBS] at HO3 HB3 HR3 HBW2 HS3 ⊢
  clear ho3 hg3 hBS HRC m1 m1' m2 m3 n0 n2
  go_wp2
  go_loopw [7, 8] (fun sm sp wr => ∃ (k M c' c8 : Nat) (A' A8 : Option Addr), k ≤ n ∧ M + 2 * k = m ∧ sm = .slice A' M c' ∧ M ≤ c' ∧ sp = .slice A8 k c8 ∧ Hid (RC wr BS A' (strs ((nmL ps).drop (2 * k)))) ∧ Hid (wr.ownsRow BS 141 2 (.slice A8 k c8) k (pcs (ps.take k))) ∧ Hid (Below BS w2 wr) ∧ Hid (BS ≤ wr.heap.size)) (fun sm _ _ => sliceLen sm)
  case atStart => exact ⟨0, m, c, n, A, some ⟨BS, 0, none⟩, by omega, by omega, rfl, hmc, rfl, HR3, HO3, HB3, HS3⟩
  case round =>
    obtain ⟨k, M, c', c8, A', A8, hk, hM, rfl, hMc, rfl, hR, hO, hW, hZ⟩ := hrel
    by_cases hlt : k < n
    · obtain ⟨q, hq⟩ : ∃ q, M = q + 2 := ⟨M - 2, by have := HMM.out; omega⟩
      subst hq
      have hlp : k < ps.length := by rw [HN.out]; exact hlt
      have hsm := HS.out.2 k hlp
      obtain ⟨O, hO1⟩ : ∃ O : Nat, po ps k = (O : Int) := ⟨(po ps k).toNat, by omega⟩
      obtain ⟨N, hN1⟩ : ∃ N : Nat, pl ps k = (N : Int) := ⟨(pl ps k).toNat, by omega⟩
      have hO6 : O ≤ 1000000 := by omega
      have hN6 : N ≤ 1000000 := by omega
      have hdl : (strs ((nmL ps).drop (2 * k))).length = q + 2 := by
        rw [length_strs, List.length_drop, nmL_len, HN.out]
        have := HMM.out
        omega
      obtain ⟨bb, off, rfl, hbB, hcell⟩ := hR.out (by rw [hdl]; omega)
      have e1 := hcell 0 (.string (numB O)) (by
        have := nmL_at1 ps k hlp
        rw [← mkS_numL]
        refine strs_get _ _ _ ?_
        rw [List.getElem?_drop, Nat.add_zero, this, hO1]
        rfl)
      have e2 := hcell 1 (.string (numB N)) (by
        have := nmL_at2 ps k hlp
        rw [← mkS_numL]
        refine strs_get _ _ _ ?_
        rw [List.getElem?_drop, this, hN1]
        rfl)
      rw [Nat.add_zero] at e1
      have HC := Lib.hid hcell
      have HSZ := hZ.out
      have hbw : bb < wr.heap.size := by omega
      have HP1 := Lib.hid (parse_num O (by omega))
      have HP2 := Lib.hid (parse_num N (by omega))
      have HS1 : Hid ((numB O).size ≤ 281474976710656) := Lib.hid (by rw [numB_size]; have := numL_le19 (n := O) (by omega); omega)
      have HS2 : Hid ((numB N).size ≤ 281474976710656) := Lib.hid (by rw [numB_size]; have := numL_le19 (n := N) (by omega); omega)
      have HTK : Hid (ps.take (k + 1) = ps.take k ++ [((O : Int), (N : Int))]) := Lib.hid (by rw [take_piece ps k hlp, hO1, hN1])
      have HDL := Lib.hid hdl
      have q1 : (2 : Int) ≤ (q : Int) + 2 := by omega
      have q2 : (0 : Int) < (q : Int) + 2 := by omega
      have q3 : (1 : Int) < (q : Int) + 2 := by omega
      have q4 : (q : Int) + 2 ≤ (c' : Int) := by omega
      have q5 : (2 : Int) ≤ (c' : Int) := by omega
      clear hcell hdl hlp hsm hO1 hN1
      go_wp2_with fail
      refine (parseInt_ok64 (numB O) _ _ HS1.out HP1.out).mono ?_
      rintro e w4 ⟨rfl, hb4⟩
      have e4 := (hb4.cell (p := ⟨bb, off + 1, none⟩) hbw).trans e2
      have HB4 := Lib.hid (hb4.mono HSZ)
      have HO4 := Lib.hid (own_below hO.out hb4 (Nat.le_refl _))
      have hz4 := hb4.size
      clear e1 e2 hb4
      go_wp2_with fail
      refine (parseInt_ok64 (numB N) _ _ HS2.out HP2.out).mono ?_
      rintro e w5 ⟨rfl, hb5⟩
      have HB5 := Lib.hid (HB4.out.trans (hb5.mono (by omega)))
      have HO5 := Lib.hid (own_below HO4.out hb5 (Nat.le_refl _))
      have hz5 := hb5.size
      clear e4 hb5
      go_wp2_with fail
      refine (appendEntry A8 k c8 BS (ps.take k) (O : Int) (N : Int) _ HO5.out (by omega) (by omega)).mono ?_
      rintro e w6 ⟨v', rfl, ho6, hb6⟩
      obtain ⟨A9, c9, rfl, _, _, _⟩ := own_form ho6
      have HO6 : Hid (w6.ownsRow BS 141 2 (.slice A9 (k + 1) c9) (k + 1) (pcs (ps.take (k + 1)))) := Lib.hid (by rw [HTK.out]; exact ho6)
      have HB6 := Lib.hid (HB5.out.trans hb6)
      have HZ6 : Hid (BS ≤ w6.heap.size) := Lib.hid (by have := hb6.size; omega)
      have HNEXT : Hid (∀ A'', (0 < q → A'' = some ⟨bb, off + 2, none⟩) → RC w6 BS A'' (strs ((nmL ps).drop (2 * (k + 1))))) := Lib.hid (by
        intro A'' hA
        intro hpos
        have hl : (strs ((nmL ps).drop (2 * (k + 1)))).length = q := by
          have := HDL.out
          rw [length_strs, List.length_drop] at this ⊢
          omega
        have hq0 : 0 < q := by omega
        refine ⟨bb, off + 2, hA hq0, hbB, fun i v hv => ?_⟩
        have h1 := HC.out (2 + i) v (by
          unfold strs at hv ⊢
          rw [List.getElem?_map, List.getElem?_drop] at hv ⊢
          rw [← hv, show 2 * (k + 1) + i = 2 * k + (2 + i) by omega])
        rw [← Nat.add_assoc] at h1
        exact (HB6.out.cell (p := ⟨bb, off + 2 + i, none⟩) hbB).trans h1)
      have HW6 := Lib.hid (hW.out.trans HB6.out)
      clear ho6 hb6 hz4 hz5
      by_cases hcap : c' = 2
      all_goals
        go_wp2
        go_roundw
        case rel => exact ⟨k + 1, q, _, _, _, _, by omega, by omega, rfl, by omega, rfl, HNEXT.out _ (by intro h; first | rfl | omega), HO6, HW6, HZ6⟩
        case measure => simp [sliceLen]
    · obtain rfl : k = n := by omega
      obtain rfl : M = 0 := by have := HMM.out; omega
      go_wp2
      go_ret2
      exact ⟨_, rfl, by have h := hO.out; rw [List.take_of_length_le (by rw [HN.out]; exact Nat.le_refl _)] at h; rw [HN.out]; exact own_base h HBW2.out, HB2.out.trans (hW.out.mono HBW2.out)⟩
end Go.Proofs.YtlchagphjmfooaaDoor
