/- What spec.ReadTime and impl.ReadTime answer agrees: plain; FnReadTime. Times as texts: plain words; the walk of spec.PutTime. The walk of spec.PutTime (written by gen_putt.py). zzTrimRight at a set of one byte. strconv.Itoa in this text's words; the table it reads; two widths. A written record is a record by the documents, whatever stands behind it: plain words. The walk of formatPAXRecord. Walks of nine, formatPAXTime, ZZPutTime, impl.PutTime. timecore.Time.IsZero. A header of package impl as a value and as a block; the measure of its strings and records (zzFits3, 4, 5). -/
import Derived.Test.YtepeehjajhehfaaGreatDoorMA6
import Derived.Lib.ParseIntBCases
import Derived.Test.YtepeehjajhehfaaGreatDoorMA2
import Derived.Deep.DeepMust
import Derived.Test.YtepeehjajhehfaaGreatDoorShelf
import Derived.Lib.ItoaNum
import Derived.Lib.LaidTab
import Derived.Lib.AppendIntMem
import Derived.Test.YtepeehjajhehfaaGreatDoorMA5
import Derived.Test.YtepeehjajhehfaaGreatDoorMA1
namespace Go.Proofs.YtepeehjajhehfaaGreatDoor
open Go.RowKit Go.PlainAid
set_option linter.unusedVariables false

/-! ### A string, cut -/
def cutH (c : UInt8) (s : ByteArray) : ByteArray := if fc c s < s.size then s.extract 0 (fc c s) else s
def cutT (c : UInt8) (s : ByteArray) : ByteArray := if fc c s < s.size then s.extract (fc c s + 1) s.size else ⟨#[]⟩
def cutB (c : UInt8) (s : ByteArray) : Bool := decide (fc c s < s.size)
theorem cutV_eq (c : UInt8) (s : ByteArray) : cutV c s = .tuple #[.string (cutH c s), .string (cutT c s), .bool (cutB c s)] := by
  unfold cutV cutH cutT cutB
  by_cases h : fc c s < s.size
  · rw [if_pos h, if_pos h, if_pos h, decide_eq_true h]
  · rw [if_neg h, if_neg h, if_neg h, decide_eq_false h]
theorem sz_l (s : ByteArray) : s.data.toList.length = s.size := (Lib.size_eq s).symm
theorem cutH_list (c : UInt8) (s : ByteArray) : (cutH c s).data.toList = s.data.toList.take (s.data.toList.findIdx (· == c)) := by
  unfold cutH
  by_cases h : fc c s < s.size
  · rw [if_pos h, Lib.extract_data]; simp [fc]
  · rw [if_neg h, List.take_of_length_le]
    have := fc_le c s
    unfold fc at h this
    rw [sz_l]
    omega
theorem cutT_list (c : UInt8) (s : ByteArray) : (cutT c s).data.toList = s.data.toList.drop (s.data.toList.findIdx (· == c) + 1) := by
  unfold cutT
  by_cases h : fc c s < s.size
  · rw [if_pos h, Lib.extract_data, List.take_of_length_le (by rw [List.length_drop, sz_l]; omega)]
    rfl
  · rw [if_neg h, List.drop_eq_nil_of_le]
    have := fc_le c s
    unfold fc at h this
    rw [sz_l]
    omega
theorem cutH_le (c : UInt8) (s : ByteArray) : (cutH c s).size ≤ s.size := by
  rw [← sz_l, ← sz_l, cutH_list, List.length_take]; omega
theorem cutT_le (c : UInt8) (s : ByteArray) : (cutT c s).size ≤ s.size := by
  rw [← sz_l, ← sz_l, cutT_list, List.length_drop]; omega
theorem cutT_none {c : UInt8} {s : ByteArray} (h : cutB c s = false) : (cutT c s).size = 0 := by
  unfold cutB at h
  unfold cutT
  rw [if_neg (of_decide_eq_false h)]
  rfl
theorem list_head (s : ByteArray) (h : 0 < s.size) : ∃ c r, s.data.toList = c :: r ∧ bt s 0 = (c.toNat : Int) ∧ (s.extract 1 s.size).data.toList = r := by
  obtain ⟨c, e1, e2⟩ := bt_of s 0 h
  cases hl : s.data.toList with
  | nil => rw [hl] at e1; simp at e1
  | cons c' r =>
    rw [hl] at e1
    obtain rfl : c' = c := by simpa using e1
    refine ⟨c', r, rfl, e2, ?_⟩
    rw [Lib.extract_data, hl]
    have : s.size = r.length + 1 := by rw [← sz_l, hl]; rfl
    rw [this]
    simp
theorem minus_list {s u : ByteArray} (h : Minus s u true) : s.data.toList = 45 :: u.data.toList := by
  rcases h with ⟨_, h1, h2, rfl⟩ | ⟨h, _⟩
  · obtain ⟨c, r, e1, e2, e3⟩ := list_head s h1
    rw [e1, e3]
    have : c = 45 := UInt8.toNat_inj.1 (by rw [h2] at e2; have : (45 : UInt8).toNat = 45 := rfl; omega)
    rw [this]
  · cases h
theorem cut_minus {s u : ByteArray} (h : Minus s u true) : (cutH 46 s).data.toList = 45 :: (cutH 46 u).data.toList ∧ cutT 46 s = cutT 46 u := by
  have hl := minus_list h
  have hf : s.data.toList.findIdx (· == 46) = u.data.toList.findIdx (· == 46) + 1 := by rw [hl, List.findIdx_cons]; rfl
  constructor
  · rw [cutH_list, cutH_list, hf, hl, List.take_succ_cons]
  · apply ba_ext
    rw [cutT_list, cutT_list, hf, hl, List.drop_succ_cons]
theorem bt0_list {s : ByteArray} {c : UInt8} {r : List UInt8} (h : s.data.toList = c :: r) : bt s 0 = (c.toNat : Int) := by
  have hs : 0 < s.size := by rw [← sz_l, h]; simp
  obtain ⟨c', e1, e2⟩ := bt_of s 0 hs
  rw [h] at e1
  obtain rfl : c = c' := by simpa using e1
  exact e2
/-- The head of the cut begins as the string does. -/
theorem cutH_head {s : ByteArray} (hs : 0 < (cutH 46 s).size) : bt (cutH 46 s) 0 = bt s 0 := by
  cases hl : s.data.toList with
  | nil =>
    have h1 := cutH_le 46 s
    have h2 : s.size = 0 := by rw [← sz_l, hl]; rfl
    omega
  | cons c r =>
    cases hh : (cutH 46 s).data.toList with
    | nil => rw [← sz_l, hh] at hs; simp at hs
    | cons c' r' =>
      rw [bt0_list hl, bt0_list hh]
      rw [cutH_list, hl] at hh
      cases hf : (c :: r).findIdx (· == 46) with
      | zero => rw [hf] at hh; simp at hh
      | succ n =>
        rw [hf, List.take_succ_cons] at hh
        rw [(List.cons.inj hh).1]
theorem size_digs {h : ByteArray} (hd : DigOk h) : bt h 0 ≠ 43 ∧ bt h 0 ≠ 45 := by
  have := allDig_bt h hd.2 0 hd.1
  omega

/-! ### What the program's reader answers where the documents decide -/
theorem timP_none {h t : ByteArray} (hp : ∀ v, Lib.parseIntB 64 h.data.toList ≠ .ok v) : timP h t = none := by
  unfold timP
  cases hx : Lib.parseIntB 64 h.data.toList with
  | ok v => exact absurd hx (hp v)
  | _ => rfl
theorem timP_badPart {h t : ByteArray} (ht : ¬ t.size = 0) (hd : ¬ DigOk t) : timP h t = none := by
  have hd2 : ¬ allDig t.data.toList := fun hx => hd ⟨by omega, hx⟩
  unfold timP
  cases hx : Lib.parseIntB 64 h.data.toList with
  | ok v => simp only; rw [if_neg ht, if_pos hd2]
  | _ => rfl
theorem parse_minus {l : List UInt8} (hne : l ≠ []) (hd : allDig l) (hv : vl 0 l ≤ 9223372036854775807) : Lib.parseIntB 64 (45 :: l) = .ok (-(vl 0 l : Int)) := by
  rw [Lib.parseIntB_minus, (uintB_ok l (vl 0 l)).2 ⟨hne, hd, rfl, by omega⟩]
  unfold Lib.signedC
  have e63 : (2 : Nat) ^ (64 - 1) = 9223372036854775808 := by decide
  simp only
  rw [e63, if_neg (by omega)]
theorem parse_minus_bad {l : List UInt8} (hd : ¬ allDig l) : ∀ v, Lib.parseIntB 64 (45 :: l) ≠ .ok v := by
  intro v hv
  rw [Lib.parseIntB_minus] at hv
  cases hu : Lib.parseUintB 64 l with
  | ok u => exact hd ((uintB_ok l u).1 hu).2.1
  | _ => rw [hu] at hv; cases hv
theorem timP_some {h t : ByteArray} {v : Int} (hp : Lib.parseIntB 64 h.data.toList = .ok v) (ht : t.size = 0 ∨ DigOk t) :
    timP h t = some (if bt h 0 = 45 ∧ 0 < nano t.data.toList then (wrap64 (v - 1), 1000000000 - ((nano t.data.toList : Nat) : Int)) else (v, ((nano t.data.toList : Nat) : Int))) := by
  unfold timP
  rw [hp]
  simp only
  by_cases h0 : t.size = 0
  · have e : t.data.toList = [] := List.eq_nil_of_length_eq_zero (by rw [sz_l]; exact h0)
    rw [if_pos h0, e, nano_nil, if_neg (by omega)]
    rfl
  · have hd : allDig t.data.toList := (ht.resolve_left h0).2
    rw [if_neg h0, if_neg (not_not_intro hd)]
    split <;> rfl
theorem timP_badWhole {s u : ByteArray} {b : Bool} (hm : Minus s u b) (hp : bt (cutH 46 u) 0 ≠ 43) (hz : ¬ (cutH 46 u).size = 0) (hd : ¬ DigOk (cutH 46 u)) : timP (cutH 46 s) (cutT 46 s) = none := by
  have hd2 : ¬ allDig (cutH 46 u).data.toList := fun hx => hd ⟨by omega, hx⟩
  apply timP_none
  cases b with
  | true =>
    rw [(cut_minus hm).1]
    exact parse_minus_bad hd2
  | false =>
    rcases hm with ⟨h, _⟩ | ⟨_, h1, h2, rfl⟩
    · cases h
    · refine intB_bad (fun e => hz (by rw [← sz_l, e]; rfl)) ?_ hd2
      intro c hc
      have hc2 : ∃ r, (cutH 46 u).data.toList = c :: r := by
        cases hl : (cutH 46 u).data.toList with
        | nil => rw [hl] at hc; simp at hc
        | cons c' r => rw [hl] at hc; exact ⟨r, by rw [show c' = c by simpa using hc]⟩
      obtain ⟨r, hr⟩ := hc2
      have e1 := bt0_list hr
      have e2 := cutH_head (s := u) (by omega)
      omega
theorem timP_right {s u : ByteArray} {b : Bool} (hm : Minus s u b) (hd : DecOk (cutH 46 u)) (ht : (cutT 46 u).size = 0 ∨ DigOk (cutT 46 u)) :
    timP (cutH 46 s) (cutT 46 s) = some (secV b (vl 0 (cutH 46 u).data.toList) (nano (cutT 46 u).data.toList), nsV b (nano (cutT 46 u).data.toList)) := by
  have hne : (cutH 46 u).data.toList ≠ [] := fun e => by have := hd.1; rw [← sz_l, e] at this; simp at this
  have hv := hd.2.2.2
  cases b with
  | true =>
    obtain ⟨e1, e2⟩ := cut_minus hm
    have hp := parse_minus hne hd.2.2.1 hv
    rw [← e1] at hp
    rw [e2, timP_some hp ht, bt0_list e1]
    have hw : wrap64 (-(vl 0 (cutH 46 u).data.toList : Int) - 1) = -(vl 0 (cutH 46 u).data.toList : Int) - 1 := by unfold wrap64; omega
    by_cases hn : nano (cutT 46 u).data.toList = 0
    · rw [if_neg (by omega), hn]
      rfl
    · rw [if_pos ⟨rfl, by omega⟩, hw]
      unfold secV nsV
      rw [if_pos rfl, if_neg hn, if_pos rfl, if_neg hn]
  | false =>
    rcases hm with ⟨h, _⟩ | ⟨_, h1, h2, rfl⟩
    · cases h
    · rw [timP_some (intB_plain hne hd.2.2.1 hv) ht, if_neg]
      · rfl
      · intro hx
        exact (size_digs ⟨hd.1, hd.2.2.1⟩).2 hx.1

/-! ### spec.ReadTime -/
def TimAgree (s : ByteArray) (sec ns v : Int) : Prop := v = 0 ∨ (v = 2 ∧ timP (cutH 46 s) (cutT 46 s) = none) ∨ (v = 1 ∧ timP (cutH 46 s) (cutT 46 s) = some (sec, ns))
theorem specTim_right {b : Bool} (s u : ByteArray) (w : World) (hs : s.size ≤ 2147483647) (hm : Minus s u b) (hd : DecOk (cutH 46 u)) (h18 : (cutH 46 u).size ≤ 18) (ht : ((cutT 46 u).size = 0 ∧ cutB 46 u = false) ∨ DigOk (cutT 46 u)) (hz : Zeros (cutT 46 u)) :
    Calls Tryz.prog 35 #[.string s] w (STim (secV b (vl 0 (cutH 46 u).data.toList) (nano (cutT 46 u).data.toList)) (nsV b (nano (cutT 46 u).data.toList)) 1 w) := by
  have hu : u.size ≤ s.size := by
    rcases hm with ⟨_, _, _, rfl⟩ | ⟨_, _, _, rfl⟩
    · rw [ext_size _ _ _ (Nat.le_refl _)]; omega
    · exact Nat.le_refl _
  have HC : Hid (cutI 46 u = .tuple #[.string (cutH 46 u), .string (cutT 46 u), .bool (cutB 46 u)]) := Lib.hid (cutV_eq 46 u)
  have hp := (size_digs ⟨hd.1, hd.2.2.1⟩).1
  rcases ht with ⟨h0, hc⟩ | h1
  · have e : (cutT 46 u).data.toList = [] := List.eq_nil_of_length_eq_zero (by rw [sz_l]; exact h0)
    exact sTim_right0 s u _ _ w hs hu (cutH_le _ _) (cutT_le _ _) HC (Lib.hid hm) hp hd h18 hc h0 _ _ rfl rfl (by rw [e]; intro c hc; simp at hc) hz
  · have hc : cutB 46 u = true := by
      cases hb : cutB 46 u with
      | true => rfl
      | false => have := cutT_none hb; have := h1.1; omega
    exact sTim_right1 s u _ _ w hs hu (cutH_le _ _) (cutT_le _ _) HC (Lib.hid hm) hp hd h18 hc (by have := h1.1; omega) h1 _ _ rfl rfl h1.2 hz
theorem specTim (s : ByteArray) (w : World) (hs : s.size ≤ 2147483647) : ∃ sec ns v, Calls Tryz.prog 35 #[.string s] w (STim sec ns v w) ∧ TimAgree s sec ns v := by
  by_cases h0 : s.size = 0
  · have hf : ¬ fc 46 s < s.size := by omega
    exact ⟨0, 0, 0, sTim_empty s w h0 (Lib.hid (by show cutV 46 s = _; unfold cutV; rw [if_neg hf])), .inl rfl⟩
  obtain ⟨b, u, hm⟩ : ∃ b u, Minus s u b := by
    by_cases hq : bt s 0 = 45
    · exact ⟨true, _, .inl ⟨rfl, by omega, hq, rfl⟩⟩
    · exact ⟨false, s, .inr ⟨rfl, by omega, hq, rfl⟩⟩
  have hu : u.size ≤ s.size := by
    rcases hm with ⟨_, _, _, rfl⟩ | ⟨_, _, _, rfl⟩
    · rw [ext_size _ _ _ (Nat.le_refl _)]; omega
    · exact Nat.le_refl _
  have HC : Hid (cutI 46 u = .tuple #[.string (cutH 46 u), .string (cutT 46 u), .bool (cutB 46 u)]) := Lib.hid (cutV_eq 46 u)
  have HM := Lib.hid hm
  have l1 := cutH_le 46 u
  have l2 := cutT_le 46 u
  by_cases hp : 0 < (cutH 46 u).size ∧ bt (cutH 46 u) 0 = 43
  · exact ⟨0, 0, 0, sTim_plus s u _ _ w hs hu l1 l2 HC HM hp, .inl rfl⟩
  have hp2 : bt (cutH 46 u) 0 ≠ 43 := by
    intro e
    by_cases hz : 0 < (cutH 46 u).size
    · exact hp ⟨hz, e⟩
    · unfold bt at e
      rw [dif_neg hz] at e
      omega
  have htz : (cutT 46 s) = cutT 46 u := by
    cases b with
    | true => exact (cut_minus hm).2
    | false =>
      rcases hm with ⟨h, _⟩ | ⟨_, _, _, rfl⟩
      · cases h
      · rfl
  have empt : (cutT 46 u).size = 0 → allDig (cutT 46 u).data.toList := fun h => by
    have e : (cutT 46 u).data.toList = [] := List.eq_nil_of_length_eq_zero (by rw [sz_l]; exact h)
    rw [e]; intro c hc; simp at hc
  by_cases hz : (cutH 46 u).size = 0
  · by_cases hz2 : (cutT 46 u).size = 0
    · cases hc : cutB 46 u with
      | false => rw [hc] at HC; exact ⟨0, 0, 0, sTim_none s u _ _ w hs hu l1 l2 HC HM hp2 hz hz2 rfl, .inl rfl⟩
      | true => rw [hc] at HC; exact ⟨0, 0, 0, sTim_noWhole0 s u _ _ w hs hu l1 l2 HC HM hp2 hz rfl hz2, .inl rfl⟩
    · have hc : cutB 46 u = true := by
        cases hb : cutB 46 u with
        | true => rfl
        | false => exact absurd (cutT_none hb) hz2
      by_cases hd : DigOk (cutT 46 u)
      · exact ⟨0, 0, 0, sTim_noWhole1 s u _ _ w hs hu l1 l2 HC HM hp2 hz hc hz2 hd, .inl rfl⟩
      · exact ⟨0, 0, 2, sTim_badPart0 s u _ _ w hs hu l1 l2 HC HM hp2 hz hz2 hd, .inr (.inl ⟨rfl, by rw [htz]; exact timP_badPart hz2 hd⟩)⟩
  by_cases hd1 : DigOk (cutH 46 u)
  case neg => exact ⟨0, 0, 2, sTim_badWhole s u _ _ w hs hu l1 l2 HC HM hp2 hz hd1, .inr (.inl ⟨rfl, timP_badWhole hm hp2 hz hd1⟩)⟩
  by_cases hz2 : (cutT 46 u).size = 0
  · by_cases hdc : DecOk (cutH 46 u)
    · by_cases h18 : (cutH 46 u).size ≤ 18
      · cases hc : cutB 46 u with
        | true => rw [hc] at HC; exact ⟨0, 0, 0, sTim_noPart s u _ _ w hs hu l1 l2 HC HM hp2 hdc h18 rfl hz2, .inl rfl⟩
        | false => exact ⟨_, _, 1, specTim_right s u w hs hm hdc h18 (.inl ⟨hz2, hc⟩) (fun j h1 h2 => by omega), .inr (.inr ⟨rfl, timP_right hm hdc (.inl hz2)⟩)⟩
      · exact ⟨0, 0, 0, sTim_long0 s u _ _ w hs hu l1 l2 HC HM hp2 hdc (by omega) hz2, .inl rfl⟩
    · exact ⟨0, 0, 0, sTim_great0 s u _ _ w hs hu l1 l2 HC HM hp2 hd1 hdc hz2, .inl rfl⟩
  by_cases hd2 : DigOk (cutT 46 u)
  case neg => exact ⟨0, 0, 2, sTim_badPart1 s u _ _ w hs hu l1 l2 HC HM hp2 hz hd1 hz2 hd2, .inr (.inl ⟨rfl, by rw [htz]; exact timP_badPart hz2 hd2⟩)⟩
  by_cases hdc : DecOk (cutH 46 u)
  · by_cases h18 : (cutH 46 u).size ≤ 18
    · have hc : cutB 46 u = true := by
        cases hb : cutB 46 u with
        | true => rfl
        | false => exact absurd (cutT_none hb) hz2
      by_cases hzz : Zeros (cutT 46 u)
      · exact ⟨_, _, 1, specTim_right s u w hs hm hdc h18 (.inr hd2) hzz, .inr (.inr ⟨rfl, timP_right hm hdc (.inr hd2)⟩)⟩
      · exact ⟨0, 0, 0, sTim_fine s u _ _ w hs hu l1 l2 HC HM hp2 hdc h18 hc hz2 hd2 _ _ rfl rfl hd2.2 hzz, .inl rfl⟩
    · exact ⟨0, 0, 0, sTim_long1 s u _ _ w hs hu l1 l2 HC HM hp2 hdc (by omega) hz2 hd2, .inl rfl⟩
  · exact ⟨0, 0, 0, sTim_great1 s u _ _ w hs hu l1 l2 HC HM hp2 hd1 hdc hz2 hd2, .inl rfl⟩

end Go.Proofs.YtepeehjajhehfaaGreatDoor
namespace Go.Proofs.YtepeehjajhehfaaGreatDoor
open Go.RowKit Go.PlainAid
set_option linter.unusedVariables false

/-- A time as a text: a sign, seconds, perhaps a point and digits. -/
structure TimText (T : ByteArray) (b : Bool) (W N : Nat) (P : List UInt8) : Prop where
  eq : T.data.toList = (if b = true then [45] else []) ++ numL W ++ (if P = [] then [] else 46 :: P)
  dg : allDig P
  nan : nano P = N
theorem TimText.minus {T : ByteArray} {b : Bool} {W N : Nat} {P : List UInt8} (h : TimText T b W N P) : ∃ u : ByteArray, Minus T u b ∧ u.data.toList = numL W ++ (if P = [] then [] else 46 :: P) := by
  have e := h.eq
  have hp := numL_pos W
  cases b with
  | true =>
    rw [if_pos rfl, List.append_assoc] at e
    have e' : T.data.toList = 45 :: (numL W ++ (if P = [] then [] else 46 :: P)) := e
    have hs : 0 < T.size := by rw [← sz_l, e']; simp
    obtain ⟨c, r, h1, h2, h3⟩ := list_head T hs
    rw [e'] at h1
    obtain ⟨rfl, rfl⟩ := List.cons.inj h1
    exact ⟨_, .inl ⟨rfl, hs, h2, rfl⟩, h3⟩
  | false =>
    rw [if_neg (by decide), List.nil_append] at e
    have hs : 0 < T.size := by rw [← sz_l, e, List.length_append]; omega
    obtain ⟨c, r, h1, h2, h3⟩ := list_head T hs
    have h45 : bt T 0 ≠ 45 := ?_
    · exact ⟨T, .inr ⟨rfl, hs, h45, rfl⟩, e⟩
    have hc : c ∈ numL W := by
      cases hl : numL W with
      | nil => rw [hl] at hp; simp at hp
      | cons c' r' =>
        rw [e, hl, List.cons_append] at h1
        rw [(List.cons.inj h1).1]
        simp
    have := numL_dig W c hc
    unfold dig at this
    omega
theorem findIdx_none46 (W : Nat) : (numL W).findIdx (· == 46) = (numL W).length := by
  rw [List.findIdx_eq_length]
  intro x hx
  have := numL_dig W x hx
  unfold dig at this
  have h2 : x ≠ 46 := fun e => by rw [e] at this; have : (46 : UInt8).toNat = 46 := rfl; omega
  simpa using h2
theorem cut_text {u : ByteArray} {W : Nat} {P : List UInt8} (h : u.data.toList = numL W ++ (if P = [] then [] else 46 :: P)) : cutH 46 u = numB W ∧ (cutT 46 u).data.toList = P ∧ (P = [] → cutB 46 u = false) := by
  have hne : ∀ x ∈ numL W, x ≠ 46 := fun x hx e => by
    have := numL_dig W x hx
    unfold dig at this
    rw [e] at this
    have e2 : (46 : UInt8).toNat = 46 := rfl
    omega
  by_cases hP : P = []
  · rw [if_pos hP, List.append_nil] at h
    have hf := findIdx_none46 W
    refine ⟨ba_ext ?_, ?_, fun _ => ?_⟩
    · rw [cutH_list, h, hf, List.take_length]
      exact (numB_list W).symm
    · rw [cutT_list, h, hf, hP]
      exact List.drop_eq_nil_of_le (by omega)
    · unfold cutB fc
      apply decide_eq_false
      rw [h, hf, ← sz_l, h]
      omega
  · rw [if_neg hP] at h
    have hf := findIdx_pre (numL W) P 46 hne
    refine ⟨ba_ext ?_, ?_, fun h2 => absurd h2 hP⟩
    · rw [cutH_list, h, hf, List.take_left' rfl]
      exact (numB_list W).symm
    · rw [cutT_list, h, hf, ← List.drop_drop, List.drop_left' rfl]
      rfl
theorem decOk_num {W : Nat} (h : W ≤ 9223372036854775807) : DecOk (numB W) := by
  refine ⟨by rw [numB_size]; exact numL_pos W, by rw [numB_size]; exact numL_le19 h, by rw [numB_list]; exact numL_dig W, by rw [numB_list, numL_vl]; exact h⟩
/-- What the program reads of such a text. -/
theorem TimText.timP {T : ByteArray} {b : Bool} {W N : Nat} {P : List UInt8} (h : TimText T b W N P) (hW : W ≤ 9223372036854775807) : Go.Proofs.YtepeehjajhehfaaGreatDoor.timP (cutH 46 T) (cutT 46 T) = some (secV b W N, nsV b N) := by
  obtain ⟨u, hm, hu⟩ := h.minus
  obtain ⟨e1, e2, e3⟩ := cut_text hu
  have ht : (cutT 46 u).size = 0 ∨ DigOk (cutT 46 u) := by
    by_cases h0 : (cutT 46 u).size = 0
    · exact .inl h0
    · exact .inr ⟨by omega, by rw [e2]; exact h.dg⟩
  have := timP_right hm (by rw [e1]; exact decOk_num hW) ht
  rw [this, e1, e2, numB_list, numL_vl, h.nan]
/-- What the documents read of such a text. -/
theorem TimText.spec {T : ByteArray} {b : Bool} {W N : Nat} {P : List UInt8} (h : TimText T b W N P) (hW : W < 1000000000000000000) (hT : T.size ≤ 2147483647) (hP : P.length ≤ 9) (w : World) :
    Calls Tryz.prog 35 #[.string T] w (STim (secV b W N) (nsV b N) 1 w) := by
  obtain ⟨u, hm, hu⟩ := h.minus
  obtain ⟨e1, e2, e3⟩ := cut_text hu
  have ht : ((cutT 46 u).size = 0 ∧ cutB 46 u = false) ∨ DigOk (cutT 46 u) := by
    by_cases h0 : (cutT 46 u).size = 0
    · exact .inl ⟨h0, e3 (by rw [← e2]; exact List.eq_nil_of_length_eq_zero (by rw [sz_l]; exact h0))⟩
    · exact .inr ⟨by omega, by rw [e2]; exact h.dg⟩
  have h18 : (cutH 46 u).size ≤ 18 := by
    rw [e1, numB_size]
    rcases Nat.lt_or_ge 18 (numL W).length with h1 | h1
    · have h10 : 10 ≤ W := by
        rcases Nat.lt_or_ge W 10 with h2 | h2
        · rw [numL_small h2] at h1; simp at h1
        · exact h2
      have g := numL_ge W h10
      have := Nat.pow_le_pow_right (n := 10) (by omega) (show 18 ≤ (numL W).length - 1 by omega)
      have e : (10 : Nat) ^ 18 = 1000000000000000000 := by decide
      omega
    · exact h1
  have := specTim_right T u w hT hm (by rw [e1]; exact decOk_num (by omega)) h18 ht (fun j h1 h2 => by rw [← sz_l, e2] at h2; omega)
  rw [e1, e2, numB_list, numL_vl, h.nan] at this
  exact this

/-! ### The nine digits behind 10^9 -/
end Go.Proofs.YtepeehjajhehfaaGreatDoor
namespace Go.Proofs.YtepeehjajhehfaaGreatDoor
open Go.RowKit Go.PlainAid
set_option linter.unusedVariables false

/-- The sign. -/
def sgB (b : Bool) : List UInt8 := if b = true then [45] else []
end Go.Proofs.YtepeehjajhehfaaGreatDoor
namespace Go.Proofs.YtepeehjajhehfaaGreatDoor
open Go.RowKit Go.PlainAid
set_option linter.unusedVariables false

/-- Behind place m all bytes are c, and none is just ahead of it. -/
def Trimmed (c : UInt8) (s : ByteArray) (m : Nat) : Prop := m ≤ s.size ∧ (∀ j, m ≤ j → j < s.size → bt s j = (c.toNat : Int)) ∧ (0 < m → bt s (m - 1) ≠ (c.toNat : Int))
theorem bt_one (c : UInt8) : bt ⟨#[c]⟩ 0 = (c.toNat : Int) := by
  unfold bt
  rw [dif_pos (show 0 < (⟨#[c]⟩ : ByteArray).size from Nat.one_pos)]
  rfl
set_option maxRecDepth 20000 in
set_option maxHeartbeats 1600000 in
theorem trimRight1 (s : ByteArray) (c : UInt8) (w : World) (hs : s.size ≤ 4611686018427387904) :
    Calls Tryz.prog 117 #[.string s, .string ⟨#[c]⟩] w fun e w' => (∃ m, Trimmed c s m ∧ e = .returned (.string (s.extract 0 m))) ∧ ∃ k, w' = w.drewN k := by
  have hb := get_bt s
  have hb1 := get_bt ⟨#[c]⟩
  have hb2 := bt_one c
  go_enter Tryz.func117, Tryz.ntmps117
  go_upto_block 0 with fail
  go_cut [5] (fun v wr => ∃ m k : Nat, m ≤ s.size ∧ v = .int .i64 m ∧ wr = w.drewN k ∧ Hid (Trimmed c s m))
  case first =>
    go_wp2
    go_loopw [5] (fun v wr => ∃ m k : Nat, m ≤ s.size ∧ v = .int .i64 m ∧ wr = w.drewN k ∧ Hid (∀ j, m ≤ j → j < s.size → bt s j = (c.toNat : Int))) (fun v _ => (intOf v).toNat)
    case atStart => exact ⟨s.size, 0, by omega, rfl, rfl, Lib.hid (fun j h1 h2 => by omega)⟩
    case round =>
      obtain ⟨m, q, hm, rfl, rfl, hg⟩ := hrel
      by_cases h0 : 0 < m
      · obtain ⟨d, hd⟩ : ∃ d, ((c.toNat : Int) == bt s (m - 1)) = d := ⟨_, rfl⟩
        have HD := Lib.hid hd
        clear hd
        go_wp2
        go_loopw [6, 7] (fun b v wr => ∃ (f : Bool) (i k : Nat), i ≤ 1 ∧ b = .bool f ∧ v = .int .i64 i ∧ wr = w.drewN k ∧ Hid (i = 0 → f = false) ∧ Hid (i = 1 → f = d)) (fun _ v _ => 1 - (intOf v).toNat)
        case atStart => exact ⟨false, 0, q, by omega, rfl, rfl, rfl, Lib.hid (fun _ => rfl), Lib.hid (fun h => by cases h)⟩
        case round =>
          obtain ⟨f, i, q2, hi, rfl, rfl, rfl, hf0, hf⟩ := hrel
          by_cases hi0 : i = 0
          · subst hi0
            obtain rfl : f = false := hf0.out rfl
            have hw1 : IntKind.i64.wrap ((m : Int) - 1) = (m : Int) - 1 := IntWalk.i64_in _ (by omega)
            have hw2 : ((m : Int) - 1).toNat = m - 1 := by omega
            have hw3 : (0 : Int) ≤ (m : Int) - 1 := by omega
            have hw4 : (m : Int) - 1 < (s.size : Int) := by omega
            have hw5 : m - 1 < s.size := by omega
            have hw6 := HD.out
            clear hf0 hf
            cases d with
            | false =>
              go_wp2
              go_region_held3 (fun _ => True) (trivial) (fail)
              all_goals
                go_wp2
                go_roundw
                case rel => exact ⟨false, 1, q2 + 1, by omega, rfl, rfl, rfl, Lib.hid (fun h => by cases h), Lib.hid (fun _ => rfl)⟩
                case measure => simp [intOf]
            | true =>
              go_wp2
              go_region_held3 (fun _ => True) (trivial) (fail)
              all_goals
                go_wp2
                go_roundw
                case rel => exact ⟨true, 1, q2 + 1, by omega, rfl, rfl, rfl, Lib.hid (fun h => by cases h), Lib.hid (fun _ => rfl)⟩
                case measure => simp [intOf]
          · obtain rfl : i = 1 := by omega
            obtain rfl : f = d := hf.out rfl
            have HB : Hid (f = true ↔ bt s (m - 1) = (c.toNat : Int)) := Lib.hid (by rw [← HD.out, beq_iff_eq]; exact eq_comm)
            cases f with
            | true =>
              have HG : Hid (∀ j, m - 1 ≤ j → j < s.size → bt s j = (c.toNat : Int)) := Lib.hid (fun j h1 h2 => by
                by_cases e : j = m - 1
                · rw [e]; exact HB.out.1 rfl
                · exact hg.out j (by omega) h2)
              go_wp2
              go_roundw
              case rel => exact ⟨m - 1, q2, by omega, by go_num, rfl, HG⟩
              case measure => simp [intOf]; omega
            | false =>
              have HT : Hid (Trimmed c s m) := Lib.hid ⟨hm, hg.out, fun _ e => by have := HB.out.2 e; cases this⟩
              go_wp2
              go_meet
              exact ⟨m, q2, by omega, rfl, rfl, HT⟩
      · obtain rfl : m = 0 := by omega
        have HT : Hid (Trimmed c s 0) := Lib.hid ⟨hm, hg.out, fun h => by omega⟩
        go_wp2
        go_meet
        exact ⟨0, q, by omega, rfl, rfl, HT⟩
  case rest =>
    obtain ⟨m, q, hm, rfl, rfl, hT⟩ := hcut
    have hm' : (m : Int) ≤ (s.size : Int) := by omega
    go_wp2
    go_ret
    exact ⟨⟨m, hT.out, rfl⟩, q, rfl⟩
end Go.Proofs.YtepeehjajhehfaaGreatDoor
namespace Go.Proofs.YtepeehjajhehfaaGreatDoor
open Go.RowKit Go.PlainAid
set_option linter.unusedVariables false

def Tab (w : World) : Prop := Lib.TabIs Tryz.prog w "internal/strconv.uint64pow10" .u64 Lib.pow10Tab
theorem tab_below {w w' : World} (h : Tab w) (hb : Below w.heap.size w w') : Tab w' := by
  unfold Tab Lib.TabIs World.var? at h ⊢
  have hg : Tryz.prog.globalNamed "internal/strconv.uint64pow10" = some 3 := by kernel_rfl
  rw [hg] at h ⊢
  simp only [Option.bind_some] at h ⊢
  have hlt : 3 < w.heap.size := by
    rcases Nat.lt_or_ge 3 w.heap.size with h1 | h1
    · exact h1
    · rw [Array.getElem?_eq_none h1] at h; cases h
  rw [hb.block _ hlt]
  exact h
theorem decDigits_eq (n : Nat) : Lib.decDigits n = numL n := by
  induction n using Nat.strongRecOn with
  | _ n ih =>
    by_cases h : n < 10
    · rw [numL_small h, Lib.decDigits, dif_pos h]
    · rw [numL_big h, Lib.decDigits, dif_neg h, ih _ (by omega)]
theorem itoa_nat (n : Nat) (w : World) (hn : n ≤ 9223372036854775807) (ht : Tab w) :
    Calls Tryz.prog 142 #[.int .i64 n] w fun e w' => e = .returned (.string (numB n)) ∧ Below w.heap.size w w' := by
  refine (Tryz.strconv_Itoa (n : Int) (by omega) (by omega) w ht).mono ?_
  rintro e w' ⟨rfl, k, os, rfl⟩
  refine ⟨?_, Lib.below_grow _ _ (Nat.le_refl _) _ _⟩
  have : Lib.itoa (n : Int) = numL n := by
    unfold Lib.itoa
    rw [if_neg (by omega), Int.toNat_natCast, decDigits_eq]
  rw [this]
  rfl
end Go.Proofs.YtepeehjajhehfaaGreatDoor
namespace Go.Proofs.YtepeehjajhehfaaGreatDoor
open Go.RowKit Go.PlainAid
set_option linter.unusedVariables false

theorem sz_list (s : ByteArray) : s.data.toList.length = s.size := (Lib.size_eq s).symm
theorem fc_noneW (c : UInt8) (s : ByteArray) (h : ¬ fc c s < s.size) : ∀ x ∈ s.data.toList, x ≠ c := by
  intro x hx e
  have h1 : s.data.toList.findIdx (· == c) < s.data.toList.length := List.findIdx_lt_length_of_exists ⟨x, hx, by simp [e]⟩
  apply h
  rw [sz_list] at h1
  exact h1
end Go.Proofs.YtepeehjajhehfaaGreatDoor
namespace Go.Proofs.YtepeehjajhehfaaGreatDoor
open Go.RowKit Go.PlainAid
set_option linter.unusedVariables false

end Go.Proofs.YtepeehjajhehfaaGreatDoor
namespace Go.Proofs.YtepeehjajhehfaaGreatDoor
open Go.RowKit Go.PlainAid
set_option linter.unusedVariables false

/-! ### Decimal numbers of the library -/
/-- An int64 as decimal text. -/
def intL (i : Int) : List UInt8 := if i < 0 then 45 :: numL i.natAbs else numL i.toNat
theorem formatInt10 (i : Int) (w : World) (h0 : -9223372036854775808 ≤ i) (h1 : i ≤ 9223372036854775807) (ht : Tab w) :
    Calls Tryz.prog 79 #[.int .i64 i, .int .i64 10] w fun e w' => e = .returned (.string (mkS (intL i))) ∧ Below w.heap.size w w' := by
  refine (Tryz.strconv_FormatInt_10 i h0 h1 w ht).mono ?_
  rintro e w' ⟨rfl, k, os, rfl⟩
  refine ⟨?_, Lib.below_grow _ _ (Nat.le_refl _) _ _⟩
  have : Lib.itoa i = intL i := by
    unfold Lib.itoa intL
    rw [decDigits_eq, decDigits_eq]
  rw [this]
  rfl
theorem vl_pad (k : Nat) (l : List UInt8) : vl 0 (List.replicate k 48 ++ l) = vl 0 l := by
  rw [vl_app, vl_zeros, Nat.zero_mul]
/-- n with nine digits. -/
def NineOk (q : ByteArray) (n : Nat) : Prop := q.size ≤ 9 ∧ ∃ k, q.data.toList = List.replicate k 48 ++ numL n
theorem nine_more {q : ByteArray} {n : Nat} (h : NineOk q n) (hs : q.size < 9) : NineOk (⟨#[48]⟩ ++ q) n := by
  obtain ⟨h1, k, h2⟩ := h
  refine ⟨by rw [ByteArray.size_append]; have : (⟨#[48]⟩ : ByteArray).size = 1 := rfl; omega, k + 1, ?_⟩
  rw [app_list, h2, List.replicate_succ]
  rfl
theorem nine_end {q : ByteArray} {n : Nat} (h : NineOk q n) (hs : ¬ q.size < 9) : q.size = 9 ∧ allDig q.data.toList ∧ nano q.data.toList = n := by
  obtain ⟨h1, k, h2⟩ := h
  have h9 : q.size = 9 := by omega
  refine ⟨h9, ?_, ?_⟩
  · intro c hc
    rw [h2] at hc
    rcases List.mem_append.1 hc with h3 | h3
    · rw [(List.mem_replicate.1 h3).2]; unfold dig; decide
    · exact numL_dig n c h3
  · rw [nano_nine (by rw [sz_l]; exact h9), h2, vl_pad, numL_vl]
set_option maxRecDepth 20000 in
set_option maxHeartbeats 800000 in
theorem nine_ok (n : Nat) (w : World) (hn : n < 1000000000) (ht : Tab w) :
    Calls Tryz.prog 118 #[.int .i64 n] w fun e w' => (∃ q : ByteArray, q.size = 9 ∧ allDig q.data.toList ∧ nano q.data.toList = n ∧ e = .returned (.string q)) ∧ Below w.heap.size w w' := by
  have HT := Lib.hid ht
  have hl : (numL n).length ≤ 9 := by
    rcases Nat.lt_or_ge 9 (numL n).length with h1 | h1
    · have h10 : 10 ≤ n := by
        rcases Nat.lt_or_ge n 10 with h2 | h2
        · rw [numL_small h2] at h1; simp at h1
        · exact h2
      have g := numL_ge n h10
      have := Nat.pow_le_pow_right (n := 10) (by omega) (show 9 ≤ (numL n).length - 1 by omega)
      have e : (10 : Nat) ^ 9 = 1000000000 := by decide
      omega
    · exact h1
  have H0 : Hid (NineOk (numB n) n) := Lib.hid ⟨by rw [numB_size]; exact hl, 0, by rw [numB_list]; rfl⟩
  clear ht hl
  go_enter Tryz.func118, Tryz.ntmps118
  go_wp2_with fail
  refine (itoa_nat n _ (by omega) HT.out).mono ?_
  rintro e w1 ⟨rfl, hb1⟩
  have HB1 := Lib.hid hb1
  clear hb1
  go_wp2
  go_loop [3] (fun v => ∃ q : ByteArray, v = .string q ∧ q.size ≤ 9 ∧ Hid (NineOk q n)) (fun v => (match v with | .string q => 9 - q.size | _ => 0))
  case atStart => exact ⟨numB n, rfl, H0.out.1, H0⟩
  case round =>
    obtain ⟨q, rfl, hq9, hq⟩ := hrel
    by_cases hlt : q.size < 9
    · have hlt' : (q.size : Int) < 9 := by omega
      have hz : (⟨#[48]⟩ : ByteArray).size = 1 := rfl
      have hc : 1 + q.size ≤ 9223372036854775807 := by omega
      have HQ := Lib.hid (nine_more hq.out hlt)
      have hqz : (⟨#[48]⟩ ++ q).size = 1 + q.size := by rw [ByteArray.size_append]; rfl
      go_wp2
      go_round
      case rel => exact ⟨_, rfl, by omega, HQ⟩
      case measure => simp only [hqz]; omega
    · have hlt' : ¬ (q.size : Int) < 9 := by omega
      have HE := Lib.hid (nine_end hq.out hlt)
      go_wp2
      go_ret
      exact ⟨⟨q, HE.out.1, HE.out.2.1, HE.out.2.2, rfl⟩, HB1.out⟩

/-! ### The trimmed text -/
theorem trim_text {b : Bool} {W N : Nat} {S q : ByteArray} {m : Nat} (hS : S.data.toList = sgB b ++ numL W) (hq : q.size = 9) (hd : allDig q.data.toList) (hn : nano q.data.toList = N) (hN : 0 < N)
    (hm : Trimmed 48 (S ++ ⟨#[46]⟩ ++ q) m) : ∃ P, TimText ((S ++ ⟨#[46]⟩ ++ q).extract 0 m) b W N P ∧ P.length ≤ 9 := by
  obtain ⟨h1, h2, h3⟩ := hm
  have hz : (⟨#[46]⟩ : ByteArray).size = 1 := rfl
  have hsz : (S ++ ⟨#[46]⟩ ++ q).size = S.size + 1 + 9 := by rw [ByteArray.size_append, ByteArray.size_append, hz, hq]
  have hl : (S ++ ⟨#[46]⟩ ++ q).data.toList = (S.data.toList ++ [46]) ++ q.data.toList := by rw [app_list, app_list]
  have hl1 : (S.data.toList ++ [46]).length = S.size + 1 := by rw [List.length_append, sz_l]; rfl
  have hq9 : q.data.toList.length = 9 := by rw [sz_l]; exact hq
  -- what is cut off is noughts
  have hcut : ∀ j, m ≤ S.size + 1 + j → j < 9 → q.data.toList[j]? = some 48 := by
    intro j a1 a2
    have e := h2 (S.size + 1 + j) a1 (by omega)
    obtain ⟨c, e1, e2⟩ := bt_of (S ++ ⟨#[46]⟩ ++ q) (S.size + 1 + j) (by omega)
    rw [hl, List.getElem?_append_right (by omega), hl1, Nat.add_sub_cancel_left] at e1
    rw [e1]
    have : c = 48 := UInt8.toNat_inj.1 (by have : (48 : UInt8).toNat = 48 := rfl; omega)
    rw [this]
  have htail : ∀ k, m = S.size + 1 + k → k ≤ 9 → q.data.toList = q.data.toList.take k ++ List.replicate (9 - k) 48 := by
    intro k a1 a2
    apply List.ext_getElem?
    intro i
    by_cases hi : i < k
    · rw [List.getElem?_append_left (by rw [List.length_take]; omega), List.getElem?_take, if_pos hi]
    · rw [List.getElem?_append_right (by rw [List.length_take]; omega), List.length_take, Nat.min_eq_left (by omega), List.getElem?_replicate]
      by_cases hi9 : i < 9
      · rw [if_pos (by omega)]; exact hcut i (by omega) hi9
      · rw [if_neg (by omega), List.getElem?_eq_none (by omega)]
  have hmk : S.size + 1 < m := by
    rcases Nat.lt_or_ge (S.size + 1) m with h | h
    · exact h
    · exfalso
      have e : q.data.toList = List.replicate 9 48 := by
        apply List.ext_getElem?
        intro i
        rw [List.getElem?_replicate]
        by_cases hi9 : i < 9
        · rw [if_pos hi9]; exact hcut i (by omega) hi9
        · rw [if_neg hi9, List.getElem?_eq_none (by omega)]
      rw [nano_nine hq9, e, vl_zeros, Nat.zero_mul] at hn
      omega
  obtain ⟨k, hk⟩ : ∃ k, m = S.size + 1 + k := ⟨m - (S.size + 1), by omega⟩
  have hk9 : k ≤ 9 := by omega
  have ht := htail k hk hk9
  have hP : q.data.toList.take k ≠ [] := by
    intro e
    have := congrArg List.length e
    rw [List.length_take, List.length_nil, hq9] at this
    omega
  refine ⟨q.data.toList.take k, ⟨?_, ?_, ?_⟩, by rw [List.length_take]; omega⟩
  · rw [if_neg hP, Lib.extract_data, List.drop_zero, Nat.sub_zero, hl, hk, ← hl1, List.take_length_add_append, hS]
    show sgB b ++ numL W ++ [46] ++ _ = sgB b ++ numL W ++ _
    simp
  · intro c hc
    exact hd c (List.mem_of_mem_take hc)
  · rw [← nano_zeros _ (9 - k), ← ht]; exact hn
theorem int_text (i : Int) (W : Nat) (b : Bool) (h : i = if b = true then -(W : Int) else (W : Int)) (hW : b = true → 0 < W) : (mkS (intL i)).data.toList = sgB b ++ numL W := by
  unfold intL
  cases b with
  | true =>
    rw [if_pos rfl] at h
    have := hW rfl
    rw [if_pos (by omega)]
    have : i.natAbs = W := by omega
    rw [this]
    simp [mkS, sgB]
  | false =>
    rw [if_neg (by decide)] at h
    rw [if_neg (by omega)]
    have : i.toNat = W := by omega
    rw [this]
    simp [mkS, sgB]
theorem bare_text {b : Bool} {W : Nat} {T : ByteArray} (hT : T.data.toList = sgB b ++ numL W) : TimText T b W 0 [] := by
  refine ⟨?_, fun c hc => by simp at hc, nano_nil⟩
  rw [if_pos rfl, List.append_nil, hT]
  rfl
theorem intL_size (i : Int) (h0 : -9223372036854775808 ≤ i) (h1 : i ≤ 9223372036854775807) : (mkS (intL i)).size ≤ 20 := by
  have e : (mkS (intL i)).size = (intL i).length := by show (intL i).toArray.size = _; simp
  rw [e]
  unfold intL
  split
  · rename_i hneg
    rw [List.length_cons]
    rcases Nat.lt_or_ge i.natAbs 9223372036854775808 with h | h
    · have := numL_le19 (n := i.natAbs) (by omega)
      omega
    · have e2 : i.natAbs = 9223372036854775808 := by omega
      rw [e2, numL_len (k := 18) (by decide) (by decide)]
      omega
  · have := numL_le19 (n := i.toNat) (by omega)
    omega

/-! ### formatPAXTime -/
def FmtT (b : Bool) (W N : Nat) (w : World) (e : Ending) (w' : World) : Prop := (∃ T P, TimText T b W N P ∧ P.length ≤ 9 ∧ T.size ≤ 100 ∧ e = .returned (.string T)) ∧ Below w.heap.size w w'
set_option maxRecDepth 20000 in
set_option maxHeartbeats 1600000 in
theorem fmtT_whole (x sec : Int) (b : Bool) (W : Nat) (w : World) (hx : wrap64 (x + -62135596800) = sec) (h0 : -9223372036854775808 ≤ sec) (h1 : sec ≤ 9223372036854775807) (hb : sec = if b = true then -(W : Int) else (W : Int)) (hW : b = true → 0 < W) (hT : Tab w) :
    Calls Tryz.prog 84 #[.agg #[.int .u64 0, .int .i64 x]] w (FmtT b W 0 w) := by
  have HU := fun w => Lib.hid (unixM 0 x sec w (by decide) (by decide) hx)
  have HV := fun w => Lib.hid (nanoM 0 x w (by decide) (by decide))
  have HBB : Hid (Below w.heap.size w ((((w.alloc (.cells #[.int .u64 0, .int .i64 x] 71)).alloc (.cells #[.int .u64 0, .int .i64 x] 71)).alloc (.cells #[.int .u64 0, .int .i64 x] 71)).drew)) := Lib.hid (by
    have a1 := (Below.refl w.heap.size w).alloc (Nat.le_refl _) (.cells #[.int .u64 0, .int .i64 x] 71)
    have a2 := a1.alloc a1.size (.cells #[.int .u64 0, .int .i64 x] 71)
    exact (a2.alloc a2.size _).drew)
  have HT := Lib.hid (tab_below hT HBB.out)
  have HX := Lib.hid (bare_text (int_text sec W b hb hW))
  have HS := Lib.hid (intL_size sec (by omega) (by omega))
  clear hx hT hb hW
  go_enter Tryz.func84, Tryz.ntmps84
  go_wp2
  go_region_held3 (fun w' => w'.cell? ⟨w.heap.size, 0, none⟩ = some (.int .u64 0) ∧ w'.cell? ⟨w.heap.size, 1, none⟩ = some (.int .i64 x)) (refine ⟨?_, ?_⟩ <;> (simp [go_sem, World.cell?_alloc_past]; done)) (first
    | (go_at_call 82; refine (HU _).out.mono ?_; rintro e w2 ⟨rfl, rfl⟩)
    | (go_at_call 83; refine (HV _).out.mono ?_; rintro e w2 ⟨rfl, rfl⟩))
  go_wp2_with fail
  refine (formatInt10 sec _ (by omega) (by omega) HT.out).mono ?_
  rintro e w3 ⟨rfl, hb3⟩
  have HB3 : Hid (Below w.heap.size w w3) := Lib.hid (HBB.out.trans (hb3.mono HBB.out.size))
  clear hb3
  go_wp2
  go_ret
  exact ⟨⟨_, _, HX.out, by simp, by have := HS.out; omega, rfl⟩, HB3.out⟩
set_option maxRecDepth 20000 in
set_option maxHeartbeats 3200000 in
theorem fmtT_part (x sec : Int) (ns N W : Nat) (b : Bool) (w : World) (hx : wrap64 (x + -62135596800) = sec) (h0 : -9223372036854775808 ≤ sec) (h1 : sec ≤ 9223372036854775807) (hn0 : 0 < ns) (hn9 : ns < 1000000000)
    (hb : (b = false ∧ sec = (W : Int) ∧ N = ns) ∨ (b = true ∧ sec = -(W : Int) - 1 ∧ N + ns = 1000000000)) (hT : Tab w) :
    Calls Tryz.prog 84 #[.agg #[.int .u64 ns, .int .i64 x]] w (FmtT b W N w) := by
  have HU := fun w => Lib.hid (unixM ns x sec w (by omega) (by omega) hx)
  have HV := fun w => Lib.hid (nanoM ns x w (by omega) (by omega))
  have HBB : Hid (Below w.heap.size w ((((w.alloc (.cells #[.int .u64 ns, .int .i64 x] 71)).alloc (.cells #[.int .u64 ns, .int .i64 x] 71)).alloc (.cells #[.int .u64 ns, .int .i64 x] 71)).drew)) := Lib.hid (by
    have a1 := (Below.refl w.heap.size w).alloc (Nat.le_refl _) (.cells #[.int .u64 ns, .int .i64 x] 71)
    have a2 := a1.alloc a1.size (.cells #[.int .u64 ns, .int .i64 x] 71)
    exact (a2.alloc a2.size _).drew)
  have HT := Lib.hid (tab_below hT HBB.out)
  have hns1 : ¬ (ns : Int) = 0 := by omega
  have hz0 : (⟨#[]⟩ : ByteArray).size = 0 := rfl
  have hz45 : (⟨#[45]⟩ : ByteArray).size = 1 := rfl
  have hz46 : (⟨#[46]⟩ : ByteArray).size = 1 := rfl
  clear hx hT
  rcases hb with ⟨rfl, rfl, rfl⟩ | ⟨rfl, hs, hN⟩
  · have hsz := intL_size (W : Int) (by omega) (by omega)
    have HS : Hid ((mkS (intL (W : Int))).data.toList = sgB false ++ numL W) := Lib.hid (int_text (W : Int) W false (by simp) (fun h => by cases h))
    obtain ⟨S, hS⟩ : ∃ S, mkS (intL (W : Int)) = S := ⟨_, rfl⟩
    have k1 : ¬ (W : Int) < 0 := by omega
    go_enter Tryz.func84, Tryz.ntmps84
    go_wp2
    go_region_held3 (fun w' => w'.cell? ⟨w.heap.size, 0, none⟩ = some (.int .u64 N) ∧ w'.cell? ⟨w.heap.size, 1, none⟩ = some (.int .i64 x)) (refine ⟨?_, ?_⟩ <;> (simp [go_sem, World.cell?_alloc_past]; done)) (first
      | (go_at_call 82; refine (HU _).out.mono ?_; rintro e w2 ⟨rfl, rfl⟩)
      | (go_at_call 83; refine (HV _).out.mono ?_; rintro e w2 ⟨rfl, rfl⟩))
    go_wp2_with fail
    refine (formatInt10 W _ (by omega) (by omega) HT.out).mono ?_
    rw [hS] at hsz HS ⊢
    clear hS
    rintro e w3 ⟨rfl, hb3⟩
    have HB3 : Hid (Below w.heap.size w w3) := Lib.hid (HBB.out.trans (hb3.mono HBB.out.size))
    have HT3 := Lib.hid (tab_below HT.out hb3)
    clear hb3
    have g1 : S.size ≤ 9223372036854775807 := by omega
    have g2 : S.size + 1 ≤ 9223372036854775807 := by omega
    have e0 : (⟨#[]⟩ : ByteArray) ++ S = S := ba_ext (by rw [app_list]; rfl)
    go_wp2_with fail
    refine (nine_ok N _ (by omega) HT3.out).mono ?_
    rintro e w4 ⟨⟨q, hq9, hqd, hqn, rfl⟩, hb4⟩
    have HB4 : Hid (Below w.heap.size w w4) := Lib.hid (HB3.out.trans (hb4.mono HB3.out.size))
    have HQ : Hid (allDig q.data.toList ∧ nano q.data.toList = N) := Lib.hid ⟨hqd, hqn⟩
    clear hb4 hqd hqn
    have g3 : S.size + 1 + q.size ≤ 9223372036854775807 := by omega
    have hsz2 : (S ++ ⟨#[46]⟩ ++ q).size ≤ 40 := by rw [ByteArray.size_append, ByteArray.size_append]; omega
    go_wp2_with fail
    refine (trimRight1 _ 48 _ (by omega)).mono ?_
    rintro e w5 ⟨⟨m, hm, rfl⟩, k5, rfl⟩
    obtain ⟨P, hP, hP9⟩ := trim_text HS.out hq9 HQ.out.1 HQ.out.2 (by omega) hm
    have HP := Lib.hid hP
    have HP9 := Lib.hid hP9
    have HM : Hid (((S ++ ⟨#[46]⟩ ++ q).extract 0 m).size ≤ 100) := Lib.hid (by rw [ByteArray.size_extract]; omega)
    clear hP hm hP9
    go_wp2
    go_ret
    exact ⟨⟨_, P, HP.out, HP9.out, HM.out, rfl⟩, below_drewN HB4.out k5⟩
  · have h4 : sec < 0 := by omega
    have hsz := intL_size (W : Int) (by omega) (by omega)
    have HS : Hid ((⟨#[45]⟩ ++ mkS (intL (W : Int))).data.toList = sgB true ++ numL W) := Lib.hid (by rw [app_list, int_text (W : Int) W false (by simp) (fun h => by cases h)]; rfl)
    obtain ⟨S, hS⟩ : ∃ S, (⟨#[45]⟩ : ByteArray) ++ mkS (intL (W : Int)) = S := ⟨_, rfl⟩
    have hszS : S.size ≤ 21 := by rw [← hS, ByteArray.size_append]; omega
    have u1 : IntKind.i64.wrap (sec + 1) = sec + 1 := IntWalk.i64_in _ (by omega)
    have u2 : IntKind.i64.wrap (-(sec + 1)) = (W : Int) := by rw [IntWalk.i64_in _ (by omega)]; omega
    have u3 : IntKind.i64.wrap ((ns : Int) - 1000000000) = (ns : Int) - 1000000000 := IntWalk.i64_in _ (by omega)
    have u4 : IntKind.i64.wrap (-((ns : Int) - 1000000000)) = (N : Int) := by rw [IntWalk.i64_in _ (by omega)]; omega
    have hcS : 1 + (mkS (intL (W : Int))).size ≤ 9223372036854775807 := by omega
    have hW63 : (W : Int) ≤ 9223372036854775807 := by omega
    clear hs
    go_enter Tryz.func84, Tryz.ntmps84
    go_wp2
    go_region_held3 (fun w' => w'.cell? ⟨w.heap.size, 0, none⟩ = some (.int .u64 ns) ∧ w'.cell? ⟨w.heap.size, 1, none⟩ = some (.int .i64 x)) (refine ⟨?_, ?_⟩ <;> (simp [go_sem, World.cell?_alloc_past]; done)) (first
      | (go_at_call 82; refine (HU _).out.mono ?_; rintro e w2 ⟨rfl, rfl⟩)
      | (go_at_call 83; refine (HV _).out.mono ?_; rintro e w2 ⟨rfl, rfl⟩))
    go_wp2_with fail
    refine (formatInt10 W _ (by omega) (by omega) HT.out).mono ?_
    rintro e w3 ⟨rfl, hb3⟩
    have HB3 : Hid (Below w.heap.size w w3) := Lib.hid (HBB.out.trans (hb3.mono HBB.out.size))
    have HT3 := Lib.hid (tab_below HT.out hb3)
    clear hb3
    rw [hS] at HS
    have g1 : S.size ≤ 9223372036854775807 := by omega
    have g2 : S.size + 1 ≤ 9223372036854775807 := by omega
    go_wp2_with fail
    refine (nine_ok N _ (by omega) HT3.out).mono ?_
    rintro e w4 ⟨⟨q, hq9, hqd, hqn, rfl⟩, hb4⟩
    have HB4 : Hid (Below w.heap.size w w4) := Lib.hid (HB3.out.trans (hb4.mono HB3.out.size))
    have HQ : Hid (allDig q.data.toList ∧ nano q.data.toList = N) := Lib.hid ⟨hqd, hqn⟩
    clear hb4 hqd hqn
    have g3 : S.size + 1 + q.size ≤ 9223372036854775807 := by omega
    have hsz2 : (S ++ ⟨#[46]⟩ ++ q).size ≤ 40 := by rw [ByteArray.size_append, ByteArray.size_append]; omega
    go_wp2_with fail
    refine (trimRight1 _ 48 _ (by omega)).mono ?_
    rintro e w5 ⟨⟨m, hm, rfl⟩, k5, rfl⟩
    obtain ⟨P, hP, hP9⟩ := trim_text HS.out hq9 HQ.out.1 HQ.out.2 (by omega) hm
    have HP := Lib.hid hP
    have HP9 := Lib.hid hP9
    have HM : Hid (((S ++ ⟨#[46]⟩ ++ q).extract 0 m).size ≤ 100) := Lib.hid (by rw [ByteArray.size_extract]; omega)
    clear hP hm hP9
    go_wp2
    go_ret
    exact ⟨⟨_, P, HP.out, HP9.out, HM.out, rfl⟩, below_drewN HB4.out k5⟩

/-! ### ZZPutTime, impl.PutTime -/
end Go.Proofs.YtepeehjajhehfaaGreatDoor
namespace Go.Proofs.YtepeehjajhehfaaGreatDoor
open Go.RowKit Go.PlainAid
set_option linter.unusedVariables false

/-- Is it the zero time? -/
def izB (n x : Int) : Bool := decide (n = 0) && decide (x = 0)
set_option maxRecDepth 20000 in
set_option maxHeartbeats 400000 in
theorem isZeroM (n x : Int) (w : World) :
    Calls Tryz.prog 81 #[.agg #[.int .u64 n, .int .i64 x]] w fun e w' => e = .returned (.bool (izB n x)) ∧ Below w.heap.size w w' := by
  have HW : Hid (Below w.heap.size w (w.alloc (.cells #[.int .u64 n, .int .i64 x] 71))) := Lib.hid ((Below.refl _ _).alloc (Nat.le_refl _) _)
  by_cases h1 : n = 0
  · subst h1
    by_cases h2 : x = 0
    · subst h2
      go_enter Tryz.func81, Tryz.ntmps81
      go_wp2
      go_ret
      exact ⟨rfl, HW.out⟩
    · have HV : Hid (izB 0 x = false) := Lib.hid (by unfold izB; rw [decide_eq_false h2, Bool.and_false])
      have h2' : (x == 0) = false := by simpa using h2
      go_enter Tryz.func81, Tryz.ntmps81
      go_wp2
      go_ret
      exact ⟨by rw [HV.out]; rfl, HW.out⟩
  · have HV : Hid (izB n x = false) := Lib.hid (by unfold izB; rw [decide_eq_false h1, Bool.false_and])
    have h1' : (n == 0) = false := by simpa using h1
    go_enter Tryz.func81, Tryz.ntmps81
    go_wp2
    go_ret
    exact ⟨by rw [HV.out]; rfl, HW.out⟩
end Go.Proofs.YtepeehjajhehfaaGreatDoor
namespace Go.Proofs.YtepeehjajhehfaaGreatDoor
open Go.RowKit Go.PlainAid
set_option linter.unusedVariables false

def Hd.icells (h : Hd) : List Value := [.int .u8 h.ty, .string h.name, .string h.link, .int .i64 h.size, .int .i64 h.mode, .int .i64 h.uid, .int .i64 h.gid, .string h.un, .string h.gn, .int .i64 h.ms, .int .i64 h.mn, .bool h.ha, .int .i64 h.as_, .int .i64 h.an, .bool h.hc, .int .i64 h.cs, .int .i64 h.cn, .int .i64 h.maj, .int .i64 h.min, .slice h.rA h.rn h.rc, .int .i64 h.fm]
def Hd.iarr (h : Hd) : Array Value := h.icells.toArray
def Hd.ival (h : Hd) : Value := .agg h.iarr
theorem Hd.isize_ (h : Hd) : (Tryz.prog.info? 26).map (·.size) = some h.iarr.size := by
  show _ = some 21
  kernel_rfl
theorem Hd.iblk (h : Hd) (w : World) (T : TypeId) : Blk (w.alloc (.cells h.iarr T)) w.heap.size T h.icells := Blk.new w T h.icells
def Fits5P (k v : ByteArray) (w : World) (e : Ending) (w' : World) : Prop := ∃ b : Bool, e = .returned (.bool b) ∧ (b = true ↔ (k.size ≤ 2147483647 ∧ v.size ≤ 2147483647)) ∧ Below w.heap.size w w'
set_option maxRecDepth 20000 in
set_option maxHeartbeats 800000 in
theorem fits5 (k v : ByteArray) (w : World) :
    Calls Tryz.prog 37 #[.agg #[.string k, .string v]] w (Fits5P k v w) := by
  have HB : ∀ T, Hid (Below w.heap.size w (w.alloc (.cells #[.string k, .string v] T))) := fun T => Lib.hid ((Below.refl _ _).alloc (Nat.le_refl _) _)
  by_cases h1 : k.size ≤ 2147483647
  · have h1' : ¬ (2147483647 : Int) < (k.size : Int) := by omega
    by_cases h2 : v.size ≤ 2147483647
    · have h2' : ¬ (2147483647 : Int) < (v.size : Int) := by omega
      have HH := Lib.hid (And.intro h1 h2)
      clear h1 h2
      go_enter Tryz.func37, Tryz.ntmps37
      go_wp2
      go_ret
      exact ⟨true, rfl, ⟨(fun _ => HH.out), (fun _ => rfl)⟩, (HB _).out⟩
    · have h2' : (2147483647 : Int) < (v.size : Int) := by omega
      have HH := Lib.hid h2
      clear h1 h2
      go_enter Tryz.func37, Tryz.ntmps37
      go_wp2
      go_ret
      exact ⟨false, rfl, ⟨(fun h => by cases h), (fun h => absurd h.2 HH.out)⟩, (HB _).out⟩
  · have h1' : (2147483647 : Int) < (k.size : Int) := by omega
    have HH := Lib.hid h1
    clear h1
    go_enter Tryz.func37, Tryz.ntmps37
    go_wp2
    go_ret
    exact ⟨false, rfl, ⟨(fun h => by cases h), (fun h => absurd h.1 HH.out)⟩, (HB _).out⟩
/-- The records are no longer than any list and text may be. -/
def RecsFit (rs : List (ByteArray × ByteArray)) : Prop := rs.length ≤ 2147483647 ∧ ∀ k, k < rs.length → (rk rs k).size ≤ 2147483647 ∧ (rv rs k).size ≤ 2147483647
def Fits4P (rs : List (ByteArray × ByteArray)) (w : World) (e : Ending) (w' : World) : Prop := ∃ b : Bool, e = .returned (.bool b) ∧ (b = true → RecsFit rs) ∧ Below w.heap.size w w'
set_option maxRecDepth 20000 in
set_option maxHeartbeats 1600000 in
theorem fits4 (A : Option Addr) (n c B : Nat) (rs : List (ByteArray × ByteArray)) (w : World) (hl : rs.length = n) (hr : RC w B A (recsV rs)) (hB : B ≤ w.heap.size) (hn : n ≤ 9223372036854775807) :
    Calls Tryz.prog 16 #[.slice A n c] w (Fits4P rs w) := by
  have HR := Lib.hid hr
  have HL := Lib.hid hl
  clear hr hl
  by_cases hbig : 2147483647 < n
  · have hbig' : (2147483647 : Int) < (n : Int) := by omega
    go_enter Tryz.func16, Tryz.ntmps16
    go_wp2
    go_ret
    exact ⟨false, rfl, (fun h => by cases h), Below.refl _ _⟩
  have hbig' : ¬ (2147483647 : Int) < (n : Int) := by omega
  go_enter Tryz.func16, Tryz.ntmps16
  go_wp2
  go_loopw [10] (fun i wr => ∃ k : Nat, k ≤ n ∧ i = .int .i64 k ∧ Hid (∀ j, j < k → (rk rs j).size ≤ 2147483647 ∧ (rv rs j).size ≤ 2147483647) ∧ Hid (Below w.heap.size w wr)) (fun i _ => n - (intOf i).toNat)
  case atStart => exact ⟨0, by omega, rfl, Lib.hid (fun j hj => by omega), Lib.hid (Below.refl _ _)⟩
  case round =>
    obtain ⟨k, hk, rfl, HK, HW⟩ := hrel
    by_cases hlt : k < n
    · obtain ⟨b, off, rfl, _, q1, q2⟩ := (HR.out.below (HW.out.mono hB)).rec_ (k := k) (by rw [HL.out]; exact hlt)
      have hk0 : (0 : Int) ≤ (k : Int) := by omega
      have hk1 : (k : Int) < (n : Int) := by omega
      obtain ⟨X, hX⟩ : ∃ X, rk rs k = X := ⟨_, rfl⟩
      obtain ⟨Y, hY⟩ : ∃ Y, rv rs k = Y := ⟨_, rfl⟩
      rw [hX] at q1
      rw [hY] at q2
      have HXX := Lib.hid hX
      have HYY := Lib.hid hY
      have HWA : Hid (Below w.heap.size w (wr.alloc (.cells #[.string X, .string Y] 83))) := Lib.hid (HW.out.alloc HW.out.size _)
      clear hX hY
      go_wp2_with fail
      refine (fits5 X Y _).mono ?_
      rintro e w2 ⟨b2, rfl, hb2, hw2⟩
      have HW2 : Hid (Below w.heap.size w w2) := Lib.hid (HWA.out.trans (hw2.mono HWA.out.size))
      have HB2 := Lib.hid hb2
      clear hb2 hw2
      cases b2 with
      | false =>
        go_wp2
        go_ret
        exact ⟨false, rfl, (fun h => by cases h), HW2.out⟩
      | true =>
        have HN : Hid (∀ j, j < k + 1 → (rk rs j).size ≤ 2147483647 ∧ (rv rs j).size ≤ 2147483647) := Lib.hid (fun j hj => by
          by_cases h : j < k
          · exact HK.out j h
          · obtain rfl : j = k := by omega
            rw [HXX.out, HYY.out]
            exact HB2.out.1 rfl)
        go_wp2
        go_roundw
        case rel => exact ⟨k + 1, by omega, by go_num, HN, HW2⟩
        case measure => simp [intOf]; omega
    · obtain rfl : k = n := by omega
      have HF : Hid (RecsFit rs) := Lib.hid ⟨by rw [HL.out]; omega, fun j hj => HK.out j (by rw [← HL.out]; exact hj)⟩
      go_wp2
      go_ret
      exact ⟨true, rfl, (fun _ => HF.out), HW.out⟩
end Go.Proofs.YtepeehjajhehfaaGreatDoor
