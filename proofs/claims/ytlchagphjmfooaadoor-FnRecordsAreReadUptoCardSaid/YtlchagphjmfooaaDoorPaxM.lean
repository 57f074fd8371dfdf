/- parsePAX over records that the documents tell Right or Wrong. -/
import Derived.Test.YtlchagphjmfooaaDoorRdB
import Derived.Test.YtlchagphjmfooaaDoorSpR
namespace Go.Proofs.YtlchagphjmfooaaDoor
open Go.RowKit Go.PlainAid Go.Maps Go.ChangeMaps Go.MapKept Go.WideMaps
set_option linter.unusedVariables false

theorem spk_ne {k : ByteArray} (h : spk k = false) (X : List UInt8) : (k.toList == gsp ++ X) = false := by
  rw [beq_eq_false_iff_ne]
  intro he
  have h1 : k.data.toList = gsp ++ X := by rw [← Lib.toList_data]; exact he
  have h2 : 11 ≤ k.size := by
    rw [Lib.size_eq, h1, List.length_append]
    have : gsp.length = 11 := rfl
    omega
  have h3 : (k.extract 0 11).toList = gsp := by
    rw [Lib.toList_data, Lib.extract_data, h1]
    simp [gsp]
  unfold spk at h
  rw [decide_eq_true h2, h3] at h
  simp at h
def kOff : List UInt8 := [71, 78, 85, 46, 115, 112, 97, 114, 115, 101, 46, 111, 102, 102, 115, 101, 116]
def kNumb : List UInt8 := [71, 78, 85, 46, 115, 112, 97, 114, 115, 101, 46, 110, 117, 109, 98, 121, 116, 101, 115]
/-- What parsePAX leaves. -/
def PaxMP (rs : List (ByteArray × ByteArray)) (v : Int) (Br : Nat) (a : Addr) (w : World) (e : Ending) (w' : World) : Prop :=
  (v = 1 ∧ ∃ b nn, e = .returned (.tuple #[.map (some b), .nilIface]) ∧ w'.ownsMap Tryd.prog 9 (plainElem Tryd.prog 9) b nn (mapOf rs) ∧ w.heap.size ≤ b ∧ Far [Br] w w') ∨
  (v = 2 ∧ e = .returned (.tuple #[.map none, errV a]) ∧ Far [Br] w w')
theorem Err.far {Br : Nat} {w w' : World} {g : Nat} {a : Addr} (h : Err Br w g a) (hf : Far [Br] w w') (hB : Br ≤ w.heap.size) : Err Br w' g a := h.below (hf.below (B := Br) (fun k hk => by simp at hk; omega) hB) (Nat.le_refl _)
set_option maxRecDepth 20000 in
set_option maxHeartbeats 3200000 in
theorem parsePax {a a1 a2 a3 : Addr} (Br : Nat) (D : List UInt8) (rs : List (ByteArray × ByteArray)) (v : Int) (w : World) (hb : BrAt Br D w) (hD : D.length ≤ 1048000) (hP : PR (mkS D) rs v) (hv : v = 1 ∨ v = 2)
    (hE : Err Br w 0 a) (hE1 : Err Br w 6 a1) (hE2 : Err Br w 7 a2) (hE3 : Err Br w 2 a3) :
    Calls Tryd.prog 70 #[.iface 126 (.pointer (some ⟨Br, 0, none⟩))] w (PaxMP rs v Br a w) := by
  have hbl := hb.lt
  have HF := Lib.hid (readFile Br D w hb hD hE3)
  have HE := Lib.hid hE
  have HE1 := Lib.hid hE1
  have HE2 := Lib.hid hE2
  have HP := Lib.hid hP
  have HV := Lib.hid hv
  have hmm := @run_makeMap Tryd.prog
  clear hb hE hE1 hE2 hE3 hP hv
  go_enter Tryd.func70, Tryd.ntmps70
  go_wp2_with fail
  refine HF.out.mono ?_
  rintro e w1 ⟨A, c, rfl, hr, hc, hf⟩
  have HR := Lib.hid hr
  have HFAR := Lib.hid hf
  have HS1 := Lib.hid hf.size
  have HEh := Lib.hid (HE.out.far hf (by omega))
  have HEs := Lib.hid (HE1.out.far hf (by omega))
  have HEr := Lib.hid (HE2.out.far hf (by omega))
  clear hr hf HE HE1 HE2 HF
  go_wp2_with (refine wpList_conv_bytes (o := ⟨some 22, _, _, _, _, _⟩) _ rfl (.tmp 21) 62 9 5 rfl Tryd.underlying62 Tryd.underlying5 Tryd.underlying9 A D.length c _ D rfl rfl HR.out ?_)
  have HB1 : Hid (Below w1.heap.size w1 (w1.alloc (.map #[] 0))) := Lib.hid ((Below.refl _ w1).alloc (Nat.le_refl _) _)
  have HO1 := Lib.hid (World.ownsMap_made (H := Unit) w1 Tryd.prog 9 (plainElem Tryd.prog 9))
  have HSZ : Hid ((mkS D).size ≤ 1048000) := Lib.hid (by rw [mkS_len]; exact hD)
  obtain ⟨s0, hs0⟩ : ∃ s0, s0 = mkS D := ⟨_, rfl⟩
  rw [← hs0] at HP HSZ ⊢
  clear hs0
  go_loopw [6, 7] (fun sv sp wr => ∃ (s : ByteArray) (dn r2 : List (ByteArray × ByteArray)), sv = .string s ∧ sp = .slice none 0 0 ∧ s.size + dn.length ≤ s0.size ∧ Hid (rs = dn ++ r2) ∧ Hid (PR s r2 v) ∧ Hid (wr.ownsMap Tryd.prog 9 (plainElem Tryd.prog 9) w1.heap.size dn.length (mapOf dn)) ∧ Hid (Below w1.heap.size w1 wr)) (fun sv _ _ => strSize sv)
  case atStart => exact ⟨s0, [], rs, rfl, rfl, by simp, Lib.hid rfl, HP, HO1, HB1⟩
  case round =>
    obtain ⟨s, dn, r2, rfl, rfl, hsz, hRS, hPR, hO, hW⟩ := hrel
    have hs9 : s.size ≤ 1048000 := by have := HSZ.out; omega
    have hp := hPR.out
    cases hp with
    | nil h0 =>
      have HRS : Hid (rs = dn) := Lib.hid (by rw [hRS.out, List.append_nil])
      have hz : ¬ (0 : Int) < (s.size : Int) := by omega
      clear h0
      go_wp2
      go_ret2
      exact .inl ⟨rfl, _, _, rfl, by rw [HRS.out]; exact hO.out, HS1.out, HFAR.out.trans (Far.mono (Far.of_below hW.out) (fun k _ hk => hk))⟩
    | stop h0 h1 =>
      have hv2 : (readV s).v = 2 := by rcases HV.out with h | h <;> omega
      have HV2 := Lib.hid hv2
      have hz : (0 : Int) < (s.size : Int) := by omega
      have HN := Lib.hid (pax_no (s := s) hv2 wr (by omega) (HEh.out.below (hW.out.mono (by have := HS1.out; omega)) (Nat.le_refl _)) (HEs.out.below (hW.out.mono (by have := HS1.out; omega)) (Nat.le_refl _)) (HEr.out.below (hW.out.mono (by have := HS1.out; omega)) (Nat.le_refl _)))
      clear h0 h1 hv2
      go_wp2_with fail
      refine HN.out.mono ?_
      rintro e w2 ⟨rfl, hb2⟩
      have HW2 : Hid (Below w1.heap.size w1 w2) := Lib.hid (hW.out.trans (hb2.mono hW.out.size))
      have k1 := (HEh.out.below (HW2.out.mono (by have := HS1.out; omega)) (Nat.le_refl _)).cell
      unfold errV at k1 ⊢
      clear hb2 HN
      go_wp2
      go_region_held3 (fun w' => w'.cell? ⟨0, 0, none⟩ = some (.iface 226 (.pointer (some a)))) (go_keep) (fail)
      go_wp2
      go_ret2
      exact .inr ⟨HV2.out, rfl, (HFAR.out.trans (Far.mono (Far.of_below HW2.out) (fun k _ hk => hk))).drew⟩
    | bad h0 h1 h2 => rcases HV.out with h | h <;> cases h
    | @cons _ k val r rs' _ h0 h1 h2 h3 =>
      obtain ⟨hh, nn, mm, H⟩ := isRec_of (s := s) (by rw [h1])
      rw [h1] at H
      obtain ⟨q1, q2, q3⟩ := readV_rest h1
      have HY := Lib.hid (pax_yes H wr (by omega) (HEh.out.below (hW.out.mono (by have := HS1.out; omega)) (Nat.le_refl _)) (fun h => h2 (.inr (.inr (.inl h)))) (fun h => h2 (.inr (.inr (.inr h)))))
      have hz : (0 : Int) < (s.size : Int) := by omega
      have hsp : spk k = false := by
        by_cases h : spk k = true
        · exact absurd (.inr (.inl h)) h2
        · simpa using h
      have HSP := Lib.hid hsp
      have e1 : (k.toList == [71, 78, 85, 46, 115, 112, 97, 114, 115, 101, 46, 111, 102, 102, 115, 101, 116]) = false := spk_ne hsp [111, 102, 102, 115, 101, 116]
      have e2 : (k.toList == [71, 78, 85, 46, 115, 112, 97, 114, 115, 101, 46, 110, 117, 109, 98, 121, 116, 101, 115]) = false := spk_ne hsp [110, 117, 109, 98, 121, 116, 101, 115]
      have HK := Lib.hid (keyOf_string_mk Tryd.underlying9 (s := k) (by unfold maxLen; omega))
      have HVAL := Lib.hid (plainElem_string (H := Unit) Tryd.underlying9 (s := val) (by unfold maxLen; omega))
      have HP3 := Lib.hid h3
      have hsn : s.size + dn.length ≤ 1048000 := by have := HSZ.out; omega
      clear h0 h1 h2 h3 H hsp
      go_wp2_with fail
      refine HY.out.mono ?_
      rintro e w2 ⟨rfl, hb2⟩
      have HW2 : Hid (Below w1.heap.size w1 w2) := Lib.hid (hW.out.trans (hb2.mono hW.out.size))
      have HO2 := Lib.hid (ownsMap_below hO.out hb2 hO.out.lt)
      have HSW : Hid (w1.heap.size ≤ w2.heap.size) := Lib.hid HW2.out.size
      clear hb2 HY
      go_wp2_with (at_mapUpdate; refine wpList_mapUpdate_own _ rfl _ _ _ 115 rfl 9 9 strKeyed Tryd.underlying115 _ w1.heap.size dn.length _ rfl HO2.out (by unfold maxLen; omega) _ _ _ rfl rfl HK.out _ [] HVAL.out ?_)
      intro w3 ho3 hg3
      have HO3 : Hid (w3.ownsMap Tryd.prog 9 (plainElem Tryd.prog 9) w1.heap.size (dn ++ [(k, val)]).length (mapOf (dn ++ [(k, val)]))) := Lib.hid (by rw [mapOf_snoc, List.length_append]; exact ho3)
      have HW3 : Hid (Below w1.heap.size w1 w3) := Lib.hid (HW2.out.grown hg3 HSW.out (fun j hj => by cases hj; exact Nat.le_refl _))
      clear ho3 hg3
      go_wp2
      go_roundw
      case rel => exact ⟨r, dn ++ [(k, val)], rs', rfl, rfl, by rw [List.length_append, List.length_singleton]; omega, Lib.hid (by rw [hRS.out, List.append_assoc]; rfl), HP3, HO3, HW3⟩
      case measure => simp [strSize]; omega
end Go.Proofs.YtlchagphjmfooaaDoor
