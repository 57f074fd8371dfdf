/- parsePAX at any bytes: it ends, with a map of records or with ErrHeader. -/
import Derived.Test.YtlchagphjmfooaaDoorPaxM
import Derived.Test.YtlchagphjmfooaaDoorPaxA
import Derived.Test.YtlchagphjmfooaaDoorJoin
namespace Go.Proofs.YtlchagphjmfooaaDoor
open Go.RowKit Go.PlainAid Go.Maps Go.ChangeMaps Go.MapKept Go.WideMaps
set_option linter.unusedVariables false

def strB (L : List ByteArray) : List Value := L.map .string
theorem length_strB (L : List ByteArray) : (strB L).length = L.length := by simp [strB]
theorem strB_get (L : List ByteArray) (k : Nat) (x : ByteArray) (h : L[k]? = some x) : (strB L)[k]? = some (.string x) := by simp [strB, h]
theorem strB_snoc (L : List ByteArray) (x : ByteArray) : strB (L ++ [x]) = strB L ++ [.string x] := by simp [strB]
theorem join_le (n : Nat) : ∀ L : List ByteArray, (∀ x ∈ L, x.size ≤ n) → (Lib.join (L.map (·.data.toList)) [44]).length ≤ L.length * (n + 1)
  | [], _ => by simp [Lib.join]
  | [x], h => by
    have h1 := h x (by simp)
    have h3 : x.data.toList.length = x.size := (Lib.size_eq x).symm
    rw [show Lib.join (List.map (fun x => x.data.toList) [x]) [44] = x.data.toList by simp [Lib.join], h3]
    simp
    omega
  | x :: y :: L, h => by
    have h1 := h x (by simp)
    have h2 := join_le n (y :: L) (fun z hz => h z (by simp at hz ⊢; exact .inr hz))
    have h3 : x.data.toList.length = x.size := (Lib.size_eq x).symm
    have h4 : Lib.join ((x :: y :: L).map fun z : ByteArray => z.data.toList) [44] = x.data.toList ++ [44] ++ Lib.join ((y :: L).map fun z : ByteArray => z.data.toList) [44] := by simp [Lib.join, List.intercalate]
    rw [h4, List.length_append, List.length_append, h3]
    simp only [List.length_cons, List.length_nil, Nat.add_mul, Nat.one_mul, Nat.zero_add] at *
    omega
/-- What parsePAX leaves, whatever the bytes. -/
def PaxN (Br : Nat) (a : Addr) (w : World) (e : Ending) (w' : World) : Prop :=
  (∃ b nn rs, e = .returned (.tuple #[.map (some b), .nilIface]) ∧ w'.ownsMap Tryd.prog 9 (plainElem Tryd.prog 9) b nn (mapOf rs) ∧ rs.length ≤ 1048001 ∧ (∀ x ∈ rs, x.1.size ≤ 4000000000000 ∧ x.2.size ≤ 4000000000000) ∧ w.heap.size ≤ b ∧ Far [Br] w w') ∨
  (e = .returned (.tuple #[.map none, errV a]) ∧ Far [Br] w w')
/-- A loop's state: the records laid, the sparse map's strings. -/
structure PS (M : Nat) (dn : List (ByteArray × ByteArray)) (L : List ByteArray) (sp : Value) (wr : World) : Prop where
  map : wr.ownsMap Tryd.prog 9 (plainElem Tryd.prog 9) M dn.length (mapOf dn)
  row : wr.ownsRow (M + 1) 9 1 sp L.length (strB L)
  szs : ∀ x ∈ dn, x.1.size ≤ 1048000 ∧ x.2.size ≤ 1048000
  lzs : ∀ x ∈ L, x.size ≤ 1048000
set_option maxRecDepth 20000 in
set_option maxHeartbeats 6400000 in
theorem parsePaxN {a a1 a2 a3 : Addr} (Br : Nat) (D : List UInt8) (w : World) (hb : BrAt Br D w) (hD : D.length ≤ 1048000)
    (hE : Err Br w 0 a) (hE1 : Err Br w 6 a1) (hE2 : Err Br w 7 a2) (hE3 : Err Br w 2 a3) :
    Calls Tryd.prog 70 #[.iface 126 (.pointer (some ⟨Br, 0, none⟩))] w (PaxN Br a w) := by
  have hbl := hb.lt
  have HF := Lib.hid (readFile Br D w hb hD hE3)
  have HE := Lib.hid hE
  have HE1 := Lib.hid hE1
  have HE2 := Lib.hid hE2
  have hmm := @run_makeMap Tryd.prog
  clear hb hE hE1 hE2 hE3
  go_enter Tryd.func70, Tryd.ntmps70
  go_wp2_with fail
  refine HF.out.mono ?_
  rintro e w1 ⟨A, c, rfl, hr, hc, hf⟩
  have HR := Lib.hid hr
  have HFAR := Lib.hid hf
  have HS1 := Lib.hid hf.size
  have HEh := Lib.hid (HE.out.far hf (by omega))
  have HEs := Lib.hid (HE1.out.far hf (by omega))
  have HEr := Lib.hid (HE2.out.far hf (by omega))
  clear hr hf HE HE1 HE2 HF
  go_wp2_with (refine wpList_conv_bytes (o := ⟨some 22, _, _, _, _, _⟩) _ rfl (.tmp 21) 62 9 5 rfl Tryd.underlying62 Tryd.underlying5 Tryd.underlying9 A D.length c _ D rfl rfl HR.out ?_)
  have HB1 : Hid (Below w1.heap.size w1 (w1.alloc (.map #[] 0))) := Lib.hid ((Below.refl _ w1).alloc (Nat.le_refl _) _)
  have HO1 : Hid (PS w1.heap.size [] [] (.slice none 0 0) (w1.alloc (.map #[] 0))) := Lib.hid ⟨World.ownsMap_made (H := Unit) w1 Tryd.prog 9 (plainElem Tryd.prog 9), World.ownsRow_nil _ _ _ _, (fun _ h => by cases h), (fun _ h => by cases h)⟩
  have HSZ : Hid ((mkS D).size ≤ 1048000) := Lib.hid (by rw [mkS_len]; exact hD)
  obtain ⟨s0, hs0⟩ : ∃ s0, s0 = mkS D := ⟨_, rfl⟩
  rw [← hs0] at HSZ ⊢
  clear hs0
  go_loopw [6, 7] (fun sv sp wr => ∃ (s : ByteArray) (dn : List (ByteArray × ByteArray)) (L : List ByteArray), sv = .string s ∧ s.size + dn.length + L.length ≤ s0.size ∧ Hid (PS w1.heap.size dn L sp wr) ∧ Hid (Below w1.heap.size w1 wr)) (fun sv _ _ => strSize sv)
  case atStart => exact ⟨s0, [], [], rfl, by simp, HO1, HB1⟩
  case round =>
    obtain ⟨s, dn, L, rfl, hsz, hPS, hW⟩ := hrel
    have hs9 : s.size ≤ 1048000 := by have := HSZ.out; omega
    have hd9 : dn.length ≤ 1048000 := by have := HSZ.out; omega
    have hl9 : L.length ≤ 1048000 := by have := HSZ.out; omega
    have HMW : Hid (w1.heap.size < wr.heap.size) := Lib.hid hPS.out.map.lt
    obtain ⟨SA, sc, rfl, _, hsc, hsb⟩ := own_form hPS.out.row
    by_cases hz : (0 : Int) < (s.size : Int)
    case neg =>
      by_cases hn : L.length = 0
      · have HL : Hid (L = []) := Lib.hid (List.eq_nil_of_length_eq_zero hn)
        have hz2 : ¬ (0 : Int) < (L.length : Int) := by omega
        have HSB := Lib.hid hsb
        clear hsb
        go_wp2
        go_ret2
        exact .inl ⟨_, _, dn, rfl, hPS.out.map, by omega, fun x hx => ⟨by have := (hPS.out.szs x hx).1; omega, by have := (hPS.out.szs x hx).2; omega⟩, HS1.out, HFAR.out.trans (Far.mono (Far.of_below hW.out) (fun k _ hk => hk))⟩
      · have hz2 : (0 : Int) < (L.length : Int) := by omega
        have hjl : (Lib.join (L.map (·.data.toList)) [44]).length ≤ 2000000000000 := by
          have h1 := join_le 1048000 L hPS.out.lzs
          have h2 : L.length * (1048000 + 1) ≤ 1048000 * (1048000 + 1) := Nat.mul_le_mul_right _ hl9
          omega
        obtain ⟨bk, off, rfl, hbk, hcell⟩ := (RC.of_own hPS.out.row) (by rw [length_strB]; omega)
        have hj9 : (⟨(Lib.join (L.map (·.data.toList)) [44]).toArray⟩ : ByteArray).size ≤ 2000000000000 := by
          show (Lib.join (L.map (·.data.toList)) [44]).toArray.size ≤ _
          simpa using hjl
        have HJN := Lib.hid (Tryd.strings_Join bk off sc L ⟨#[44]⟩ wr (fun j x hx => hcell j _ (strB_get L j x hx)) (by have := hsb _ rfl; exact this.2.1) (by omega) hsc (by show (Lib.join (L.map (·.data.toList)) [44]).length ≤ _; omega))
        obtain ⟨J, hJ⟩ : ∃ J : ByteArray, J = ⟨(Lib.join (L.map (·.data.toList)) (ByteArray.mk #[44]).data.toList).toArray⟩ := ⟨_, rfl⟩
        have hJ9 : J.size ≤ 2000000000000 := by rw [hJ]; exact hj9
        rw [← hJ] at HJN
        have HKM := Lib.hid (keyOf_string_mk Tryd.underlying9 (s := keyMap) (by show keyMap.size ≤ _; decide))
        have HVJ := Lib.hid (plainElem_string (H := Unit) Tryd.underlying9 (s := J) (by unfold maxLen; omega))
        clear hJ hj9 hjl hcell hsb
        go_wp2_with fail
        refine HJN.out.mono ?_
        rintro e w2 ⟨rfl, hb2⟩
        have HW2 : Hid (Below w1.heap.size w1 w2) := Lib.hid (hW.out.trans (hb2.mono hW.out.size))
        have HO2 := Lib.hid (ownsMap_below hPS.out.map hb2 HMW.out)
        have HSW : Hid (w1.heap.size ≤ w2.heap.size) := Lib.hid HW2.out.size
        clear hb2 HJN
        go_wp2_with (at_mapUpdate; refine wpList_mapUpdate_own _ rfl _ _ _ 115 rfl 9 9 strKeyed Tryd.underlying115 _ w1.heap.size dn.length _ rfl HO2.out (by unfold maxLen; omega) _ _ _ rfl rfl HKM.out _ [] HVJ.out ?_)
        intro w3 ho3 hg3
        have HO3 : Hid (w3.ownsMap Tryd.prog 9 (plainElem Tryd.prog 9) w1.heap.size (dn ++ [(keyMap, J)]).length (mapOf (dn ++ [(keyMap, J)]))) := Lib.hid (by rw [mapOf_snoc, List.length_append]; exact ho3)
        have HW3 : Hid (Below w1.heap.size w1 w3) := Lib.hid (HW2.out.grown hg3 HSW.out (fun j hj => by cases hj; exact Nat.le_refl _))
        have HSS : Hid (∀ x ∈ dn ++ [(keyMap, J)], x.1.size ≤ 4000000000000 ∧ x.2.size ≤ 4000000000000) := Lib.hid (fun x hx => by
          rcases List.mem_append.1 hx with h | h
          · have := hPS.out.szs x h
            omega
          · rw [List.mem_singleton.1 h]
            refine ⟨?_, ?_⟩
            · show keyMap.size ≤ _
              decide
            · show J.size ≤ _
              omega)
        clear ho3 hg3
        go_wp2
        go_ret2
        exact .inl ⟨_, _, dn ++ [(keyMap, J)], rfl, HO3.out, by rw [List.length_append, List.length_singleton]; omega, HSS.out, HS1.out, HFAR.out.trans (Far.mono (Far.of_below HW3.out) (fun k _ hk => hk))⟩
    have HN := Lib.hid (pax_any s wr (by omega) (HEh.out.below (hW.out.mono (by have := HS1.out; omega)) (Nat.le_refl _)) (HEs.out.below (hW.out.mono (by have := HS1.out; omega)) (Nat.le_refl _)) (HEr.out.below (hW.out.mono (by have := HS1.out; omega)) (Nat.le_refl _)))
    have HSB := Lib.hid hsb
    clear hsb
    go_wp2_with fail
    refine HN.out.mono ?_
    rintro e w2 (⟨k, v, r, ⟨rfl, hb2⟩, hr1, hk1, hv1⟩ | ⟨rfl, hb2⟩)
    · have HW2 : Hid (Below w1.heap.size w1 w2) := Lib.hid (hW.out.trans (hb2.mono hW.out.size))
      have HO2 := Lib.hid (ownsMap_below hPS.out.map hb2 HMW.out)
      have HRW2 : Hid (w2.ownsRow (w1.heap.size + 1) 9 1 (.slice SA L.length sc) L.length (strB L)) := Lib.hid (own_of_far hPS.out.row (Far.of_below (S := []) hb2) (fun _ _ h => by cases h))
      have HSW : Hid (w1.heap.size < w2.heap.size) := Lib.hid (Nat.lt_of_lt_of_le HMW.out hb2.size)
      have HK := Lib.hid (keyOf_string_mk Tryd.underlying9 (s := k) (by unfold maxLen; omega))
      have HV := Lib.hid (plainElem_string (H := Unit) Tryd.underlying9 (s := v) (by unfold maxLen; omega))
      have k1 := (HEh.out.below (HW2.out.mono (by have := HS1.out; omega)) (Nat.le_refl _)).cell
      unfold errV at k1
      have HSD : Hid (∀ x ∈ dn ++ [(k, v)], x.1.size ≤ 1048000 ∧ x.2.size ≤ 1048000) := Lib.hid (fun x hx => by
        rcases List.mem_append.1 hx with h | h
        · exact hPS.out.szs x h
        · rw [List.mem_singleton.1 h]
          exact ⟨by show k.size ≤ _; omega, by show v.size ≤ _; omega⟩)
      have hCV := fun w => zzContains1 v 44 w (by omega)
      clear hb2 HN
      have fin : ∀ b : Bool, (k.toList == kOff) = b → (b = true → (k.toList == kNumb) = false) := fun b hb ht => by
        subst ht
        have h := LawfulBEq.eq_of_beq hb
        rw [h]
        decide
      have HFIN := Lib.hid fin
      clear fin
      have hpar : (L.length : Int).tmod 2 = 0 ∨ (L.length : Int).tmod 2 = 1 := by rw [Int.tmod_eq_emod_of_nonneg (by omega)]; omega
      cases e1 : k.toList == kOff with
      | true =>
        have e2 := HFIN.out true e1 rfl
        unfold kOff at e1
        unfold kNumb at e2
        rcases hpar with hp | hp
        · by_cases hc : fc 44 v < v.size
          · have HC : Hid (decide (fc 44 v < v.size) = true) := Lib.hid (decide_eq_true hc)
            clear hc
            go_wp2_with (go_at_call 79; refine (hCV _).mono ?_; rw [HC.out]; rintro e w' ⟨rfl, rfl⟩)
            go_region_held3 (fun w' => w'.cell? ⟨0, 0, none⟩ = some (.iface 226 (.pointer (some a)))) (go_keep) (fail)
            go_wp2
            go_ret2
            exact .inr ⟨rfl, (HFAR.out.trans (Far.mono (Far.of_below HW2.out) (fun k _ hk => hk))).drew⟩
          · have HC : Hid (decide (fc 44 v < v.size) = false) := Lib.hid (decide_eq_false hc)
            clear hc
            have HNA := Lib.hid (HRW2.out.alloc (.cells #[.string v] 9))
            go_wp2_with (first
              | (go_at_call 79; refine (hCV _).mono ?_; rw [HC.out]; rintro e w' ⟨rfl, rfl⟩)
              | (at_builtin; refine wpList_append_rc (o := ⟨some 71, _, _, _, _, _⟩) _ rfl (.tmp 68) (.tmp 70) _ rfl (w1.heap.size + 1) 9 _ 1 16 Tryd.underlying138 strinfo rfl (by omega) _ L.length _ rfl HNA.out _ 1 1 _ [.string v] rfl rfl (RC.of_blk (Blk.new _ 9 [.string v])) (by intro u hu; rw [List.mem_singleton.1 hu]; rfl) (by omega) (by omega) (by have := HSW.out; simp; omega) ?_))
            intro v' w3 g1 g2 g3
            have HW2A : Hid (Below w1.heap.size w1 (w2.alloc (.cells #[.string v] 9))) := Lib.hid (HW2.out.alloc (Nat.le_of_lt HSW.out) _)
            have HR3 : Hid (w3.ownsRow (w1.heap.size + 1) 9 1 v' (L ++ [v]).length (strB (L ++ [v]))) := Lib.hid (by rw [strB_snoc, List.length_append]; exact g1.out)
            have HGB : Hid (Below (w1.heap.size + 1) (w2.alloc (.cells #[.string v] 9)) w3) := Lib.hid ((Below.refl _ _).grown g2.out (by have := HSW.out; simp; omega) (fun g hg => (HRW2.out.lt g hg).1))
            have HO3 := Lib.hid (ownsMap_below (HO2.out.alloc (.cells #[.string v] 9)) HGB.out (Nat.lt_succ_self _))
            have HW3 : Hid (Below w1.heap.size w1 w3) := Lib.hid (HW2A.out.trans (HGB.out.mono (Nat.le_succ _)))
            have HSW3 : Hid (w1.heap.size ≤ w3.heap.size) := Lib.hid HW3.out.size
            have HP4 : Hid (PS w1.heap.size dn (L ++ [v]) v' w3) := Lib.hid ⟨HO3.out, HR3.out, hPS.out.szs, (fun x hx => by
              rcases List.mem_append.1 hx with h | h
              · exact hPS.out.lzs x h
              · rw [List.mem_singleton.1 h]; omega)⟩
            clear g1 g2 g3
            go_wp2
            go_roundw
            case rel => exact ⟨r, dn, L ++ [v], rfl, by rw [List.length_append, List.length_singleton]; omega, HP4, HW3⟩
            case measure => simp [strSize]; omega
        · go_wp2
          go_region_held3 (fun w' => w'.cell? ⟨0, 0, none⟩ = some (.iface 226 (.pointer (some a)))) (go_keep) (fail)
          go_wp2
          go_ret2
          exact .inr ⟨rfl, (HFAR.out.trans (Far.mono (Far.of_below HW2.out) (fun k _ hk => hk))).drew⟩
      | false =>
        cases e2 : k.toList == kNumb with
        | true =>
          unfold kOff at e1
          unfold kNumb at e2
          rcases hpar with hp | hp
          · go_wp2
            go_region_held3 (fun w' => w'.cell? ⟨0, 0, none⟩ = some (.iface 226 (.pointer (some a)))) (go_keep) (fail)
            go_wp2
            go_ret2
            exact .inr ⟨rfl, (HFAR.out.trans (Far.mono (Far.of_below HW2.out) (fun k _ hk => hk))).drew⟩
          · by_cases hc : fc 44 v < v.size
            · have HC : Hid (decide (fc 44 v < v.size) = true) := Lib.hid (decide_eq_true hc)
              clear hc
              go_wp2_with (go_at_call 79; refine (hCV _).mono ?_; rw [HC.out]; rintro e w' ⟨rfl, rfl⟩)
              go_region_held3 (fun w' => w'.cell? ⟨0, 0, none⟩ = some (.iface 226 (.pointer (some a)))) (go_keep) (fail)
              go_wp2
              go_ret2
              exact .inr ⟨rfl, (HFAR.out.trans (Far.mono (Far.of_below HW2.out) (fun k _ hk => hk))).drew⟩
            · have HC : Hid (decide (fc 44 v < v.size) = false) := Lib.hid (decide_eq_false hc)
              clear hc
              have HNA := Lib.hid (HRW2.out.alloc (.cells #[.string v] 9))
              go_wp2_with (first
                | (go_at_call 79; refine (hCV _).mono ?_; rw [HC.out]; rintro e w' ⟨rfl, rfl⟩)
                | (at_builtin; refine wpList_append_rc (o := ⟨some 71, _, _, _, _, _⟩) _ rfl (.tmp 68) (.tmp 70) _ rfl (w1.heap.size + 1) 9 _ 1 16 Tryd.underlying138 strinfo rfl (by omega) _ L.length _ rfl HNA.out _ 1 1 _ [.string v] rfl rfl (RC.of_blk (Blk.new _ 9 [.string v])) (by intro u hu; rw [List.mem_singleton.1 hu]; rfl) (by omega) (by omega) (by have := HSW.out; simp; omega) ?_))
              intro v' w3 g1 g2 g3
              have HW2A : Hid (Below w1.heap.size w1 (w2.alloc (.cells #[.string v] 9))) := Lib.hid (HW2.out.alloc (Nat.le_of_lt HSW.out) _)
              have HR3 : Hid (w3.ownsRow (w1.heap.size + 1) 9 1 v' (L ++ [v]).length (strB (L ++ [v]))) := Lib.hid (by rw [strB_snoc, List.length_append]; exact g1.out)
              have HGB : Hid (Below (w1.heap.size + 1) (w2.alloc (.cells #[.string v] 9)) w3) := Lib.hid ((Below.refl _ _).grown g2.out (by have := HSW.out; simp; omega) (fun g hg => (HRW2.out.lt g hg).1))
              have HO3 := Lib.hid (ownsMap_below (HO2.out.alloc (.cells #[.string v] 9)) HGB.out (Nat.lt_succ_self _))
              have HW3 : Hid (Below w1.heap.size w1 w3) := Lib.hid (HW2A.out.trans (HGB.out.mono (Nat.le_succ _)))
              have HSW3 : Hid (w1.heap.size ≤ w3.heap.size) := Lib.hid HW3.out.size
              have HP4 : Hid (PS w1.heap.size dn (L ++ [v]) v' w3) := Lib.hid ⟨HO3.out, HR3.out, hPS.out.szs, (fun x hx => by
                rcases List.mem_append.1 hx with h | h
                · exact hPS.out.lzs x h
                · rw [List.mem_singleton.1 h]; omega)⟩
              clear g1 g2 g3
              go_wp2
              go_roundw
              case rel => exact ⟨r, dn, L ++ [v], rfl, by rw [List.length_append, List.length_singleton]; omega, HP4, HW3⟩
              case measure => simp [strSize]; omega
        | false => 
          unfold kOff at e1
          unfold kNumb at e2
          go_wp2_with (at_mapUpdate; refine wpList_mapUpdate_own _ rfl _ _ _ 115 rfl 9 9 strKeyed Tryd.underlying115 _ w1.heap.size dn.length _ rfl HO2.out (by unfold maxLen; omega) _ _ _ rfl rfl HK.out _ [] HV.out ?_)
          intro w3 ho3 hg3
          have HP3 : Hid (PS w1.heap.size (dn ++ [(k, v)]) L (.slice SA L.length sc) w3) := Lib.hid ⟨by rw [mapOf_snoc, List.length_append]; exact ho3, own_of_far HRW2.out (Far.of_grown (S := [w1.heap.size]) hg3 (fun j hj => by cases hj; simp)) (fun g hg h => by have := (HRW2.out.lt g hg).1; simp at h; omega), HSD.out, hPS.out.lzs⟩
          have HW3 : Hid (Below w1.heap.size w1 w3) := Lib.hid (HW2.out.grown hg3 (Nat.le_of_lt HSW.out) (fun j hj => by cases hj; exact Nat.le_refl _))
          clear ho3 hg3
          go_wp2
          go_roundw
          case rel => exact ⟨r, dn ++ [(k, v)], L, rfl, by rw [List.length_append, List.length_singleton]; omega, HP3, HW3⟩
          case measure => simp [strSize]; omega
    · have HW2 : Hid (Below w1.heap.size w1 w2) := Lib.hid (hW.out.trans (hb2.mono hW.out.size))
      have k1 := (HEh.out.below (HW2.out.mono (by have := HS1.out; omega)) (Nat.le_refl _)).cell
      unfold errV at k1 ⊢
      clear hb2 HN
      go_wp2
      go_region_held3 (fun w' => w'.cell? ⟨0, 0, none⟩ = some (.iface 226 (.pointer (some a)))) (go_keep) (fail)
      go_wp2
      go_ret2
      exact .inr ⟨rfl, (HFAR.out.trans (Far.mono (Far.of_below HW2.out) (fun k _ hk => hk))).drew⟩
end Go.Proofs.YtlchagphjmfooaaDoor
