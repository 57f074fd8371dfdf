/- What spec.ReadTime and impl.ReadTime answer agrees: plain; FnReadTime. -/
import Derived.Test.YtlchagphjmfooaaDoorTimS3
import Derived.Lib.ParseIntBCases
namespace Go.Proofs.YtlchagphjmfooaaDoor
open Go.RowKit Go.PlainAid
set_option linter.unusedVariables false

/-! ### A string, cut -/
def cutH (c : UInt8) (s : ByteArray) : ByteArray := if fc c s < s.size then s.extract 0 (fc c s) else s
def cutT (c : UInt8) (s : ByteArray) : ByteArray := if fc c s < s.size then s.extract (fc c s + 1) s.size else ⟨#[]⟩
def cutB (c : UInt8) (s : ByteArray) : Bool := decide (fc c s < s.size)
theorem cutV_eq (c : UInt8) (s : ByteArray) : cutV c s = .tuple #[.string (cutH c s), .string (cutT c s), .bool (cutB c s)] := by
  unfold cutV cutH cutT cutB
  by_cases h : fc c s < s.size
  · rw [if_pos h, if_pos h, if_pos h, decide_eq_true h]
  · rw [if_neg h, if_neg h, if_neg h, decide_eq_false h]
theorem sz_l (s : ByteArray) : s.data.toList.length = s.size := (Lib.size_eq s).symm
theorem cutH_list (c : UInt8) (s : ByteArray) : (cutH c s).data.toList = s.data.toList.take (s.data.toList.findIdx (· == c)) := by
  unfold cutH
  by_cases h : fc c s < s.size
  · rw [if_pos h, Lib.extract_data]; simp [fc]
  · rw [if_neg h, List.take_of_length_le]
    have := fc_le c s
    unfold fc at h this
    rw [sz_l]
    omega
theorem cutT_list (c : UInt8) (s : ByteArray) : (cutT c s).data.toList = s.data.toList.drop (s.data.toList.findIdx (· == c) + 1) := by
  unfold cutT
  by_cases h : fc c s < s.size
  · rw [if_pos h, Lib.extract_data, List.take_of_length_le (by rw [List.length_drop, sz_l]; omega)]
    rfl
  · rw [if_neg h, List.drop_eq_nil_of_le]
    have := fc_le c s
    unfold fc at h this
    rw [sz_l]
    omega
theorem cutH_le (c : UInt8) (s : ByteArray) : (cutH c s).size ≤ s.size := by
  rw [← sz_l, ← sz_l, cutH_list, List.length_take]; omega
theorem cutT_le (c : UInt8) (s : ByteArray) : (cutT c s).size ≤ s.size := by
  rw [← sz_l, ← sz_l, cutT_list, List.length_drop]; omega
theorem cutT_none {c : UInt8} {s : ByteArray} (h : cutB c s = false) : (cutT c s).size = 0 := by
  unfold cutB at h
  unfold cutT
  rw [if_neg (of_decide_eq_false h)]
  rfl
theorem list_head (s : ByteArray) (h : 0 < s.size) : ∃ c r, s.data.toList = c :: r ∧ bt s 0 = (c.toNat : Int) ∧ (s.extract 1 s.size).data.toList = r := by
  obtain ⟨c, e1, e2⟩ := bt_of s 0 h
  cases hl : s.data.toList with
  | nil => rw [hl] at e1; simp at e1
  | cons c' r =>
    rw [hl] at e1
    obtain rfl : c' = c := by simpa using e1
    refine ⟨c', r, rfl, e2, ?_⟩
    rw [Lib.extract_data, hl]
    have : s.size = r.length + 1 := by rw [← sz_l, hl]; rfl
    rw [this]
    simp
theorem minus_list {s u : ByteArray} (h : Minus s u true) : s.data.toList = 45 :: u.data.toList := by
  rcases h with ⟨_, h1, h2, rfl⟩ | ⟨h, _⟩
  · obtain ⟨c, r, e1, e2, e3⟩ := list_head s h1
    rw [e1, e3]
    have : c = 45 := UInt8.toNat_inj.1 (by rw [h2] at e2; have : (45 : UInt8).toNat = 45 := rfl; omega)
    rw [this]
  · cases h
theorem cut_minus {s u : ByteArray} (h : Minus s u true) : (cutH 46 s).data.toList = 45 :: (cutH 46 u).data.toList ∧ cutT 46 s = cutT 46 u := by
  have hl := minus_list h
  have hf : s.data.toList.findIdx (· == 46) = u.data.toList.findIdx (· == 46) + 1 := by rw [hl, List.findIdx_cons]; rfl
  constructor
  · rw [cutH_list, cutH_list, hf, hl, List.take_succ_cons]
  · apply ba_ext
    rw [cutT_list, cutT_list, hf, hl, List.drop_succ_cons]
theorem bt0_list {s : ByteArray} {c : UInt8} {r : List UInt8} (h : s.data.toList = c :: r) : bt s 0 = (c.toNat : Int) := by
  have hs : 0 < s.size := by rw [← sz_l, h]; simp
  obtain ⟨c', e1, e2⟩ := bt_of s 0 hs
  rw [h] at e1
  obtain rfl : c = c' := by simpa using e1
  exact e2
/-- The head of the cut begins as the string does. -/
theorem cutH_head {s : ByteArray} (hs : 0 < (cutH 46 s).size) : bt (cutH 46 s) 0 = bt s 0 := by
  cases hl : s.data.toList with
  | nil =>
    have h1 := cutH_le 46 s
    have h2 : s.size = 0 := by rw [← sz_l, hl]; rfl
    omega
  | cons c r =>
    cases hh : (cutH 46 s).data.toList with
    | nil => rw [← sz_l, hh] at hs; simp at hs
    | cons c' r' =>
      rw [bt0_list hl, bt0_list hh]
      rw [cutH_list, hl] at hh
      cases hf : (c :: r).findIdx (· == 46) with
      | zero => rw [hf] at hh; simp at hh
      | succ n =>
        rw [hf, List.take_succ_cons] at hh
        rw [(List.cons.inj hh).1]
theorem size_digs {h : ByteArray} (hd : DigOk h) : bt h 0 ≠ 43 ∧ bt h 0 ≠ 45 := by
  have := allDig_bt h hd.2 0 hd.1
  omega

/-! ### What the program's reader answers where the documents decide -/
theorem timP_none {h t : ByteArray} (hp : ∀ v, Lib.parseIntB 64 h.data.toList ≠ .ok v) : timP h t = none := by
  unfold timP
  cases hx : Lib.parseIntB 64 h.data.toList with
  | ok v => exact absurd hx (hp v)
  | _ => rfl
theorem timP_badPart {h t : ByteArray} (ht : ¬ t.size = 0) (hd : ¬ DigOk t) : timP h t = none := by
  have hd2 : ¬ allDig t.data.toList := fun hx => hd ⟨by omega, hx⟩
  unfold timP
  cases hx : Lib.parseIntB 64 h.data.toList with
  | ok v => simp only; rw [if_neg ht, if_pos hd2]
  | _ => rfl
theorem parse_minus {l : List UInt8} (hne : l ≠ []) (hd : allDig l) (hv : vl 0 l ≤ 9223372036854775807) : Lib.parseIntB 64 (45 :: l) = .ok (-(vl 0 l : Int)) := by
  rw [Lib.parseIntB_minus, (uintB_ok l (vl 0 l)).2 ⟨hne, hd, rfl, by omega⟩]
  unfold Lib.signedC
  have e63 : (2 : Nat) ^ (64 - 1) = 9223372036854775808 := by decide
  simp only
  rw [e63, if_neg (by omega)]
theorem parse_minus_bad {l : List UInt8} (hd : ¬ allDig l) : ∀ v, Lib.parseIntB 64 (45 :: l) ≠ .ok v := by
  intro v hv
  rw [Lib.parseIntB_minus] at hv
  cases hu : Lib.parseUintB 64 l with
  | ok u => exact hd ((uintB_ok l u).1 hu).2.1
  | _ => rw [hu] at hv; cases hv
theorem timP_some {h t : ByteArray} {v : Int} (hp : Lib.parseIntB 64 h.data.toList = .ok v) (ht : t.size = 0 ∨ DigOk t) :
    timP h t = some (if bt h 0 = 45 ∧ 0 < nano t.data.toList then (wrap64 (v - 1), 1000000000 - ((nano t.data.toList : Nat) : Int)) else (v, ((nano t.data.toList : Nat) : Int))) := by
  unfold timP
  rw [hp]
  simp only
  by_cases h0 : t.size = 0
  · have e : t.data.toList = [] := List.eq_nil_of_length_eq_zero (by rw [sz_l]; exact h0)
    rw [if_pos h0, e, nano_nil, if_neg (by omega)]
    rfl
  · have hd : allDig t.data.toList := (ht.resolve_left h0).2
    rw [if_neg h0, if_neg (not_not_intro hd)]
    split <;> rfl
theorem timP_badWhole {s u : ByteArray} {b : Bool} (hm : Minus s u b) (hp : bt (cutH 46 u) 0 ≠ 43) (hz : ¬ (cutH 46 u).size = 0) (hd : ¬ DigOk (cutH 46 u)) : timP (cutH 46 s) (cutT 46 s) = none := by
  have hd2 : ¬ allDig (cutH 46 u).data.toList := fun hx => hd ⟨by omega, hx⟩
  apply timP_none
  cases b with
  | true =>
    rw [(cut_minus hm).1]
    exact parse_minus_bad hd2
  | false =>
    rcases hm with ⟨h, _⟩ | ⟨_, h1, h2, rfl⟩
    · cases h
    · refine intB_bad (fun e => hz (by rw [← sz_l, e]; rfl)) ?_ hd2
      intro c hc
      have hc2 : ∃ r, (cutH 46 u).data.toList = c :: r := by
        cases hl : (cutH 46 u).data.toList with
        | nil => rw [hl] at hc; simp at hc
        | cons c' r => rw [hl] at hc; exact ⟨r, by rw [show c' = c by simpa using hc]⟩
      obtain ⟨r, hr⟩ := hc2
      have e1 := bt0_list hr
      have e2 := cutH_head (s := u) (by omega)
      omega
theorem timP_right {s u : ByteArray} {b : Bool} (hm : Minus s u b) (hd : DecOk (cutH 46 u)) (ht : (cutT 46 u).size = 0 ∨ DigOk (cutT 46 u)) :
    timP (cutH 46 s) (cutT 46 s) = some (secV b (vl 0 (cutH 46 u).data.toList) (nano (cutT 46 u).data.toList), nsV b (nano (cutT 46 u).data.toList)) := by
  have hne : (cutH 46 u).data.toList ≠ [] := fun e => by have := hd.1; rw [← sz_l, e] at this; simp at this
  have hv := hd.2.2.2
  cases b with
  | true =>
    obtain ⟨e1, e2⟩ := cut_minus hm
    have hp := parse_minus hne hd.2.2.1 hv
    rw [← e1] at hp
    rw [e2, timP_some hp ht, bt0_list e1]
    have hw : wrap64 (-(vl 0 (cutH 46 u).data.toList : Int) - 1) = -(vl 0 (cutH 46 u).data.toList : Int) - 1 := by unfold wrap64; omega
    by_cases hn : nano (cutT 46 u).data.toList = 0
    · rw [if_neg (by omega), hn]
      rfl
    · rw [if_pos ⟨rfl, by omega⟩, hw]
      unfold secV nsV
      rw [if_pos rfl, if_neg hn, if_pos rfl, if_neg hn]
  | false =>
    rcases hm with ⟨h, _⟩ | ⟨_, h1, h2, rfl⟩
    · cases h
    · rw [timP_some (intB_plain hne hd.2.2.1 hv) ht, if_neg]
      · rfl
      · intro hx
        exact (size_digs ⟨hd.1, hd.2.2.1⟩).2 hx.1

/-! ### spec.ReadTime -/
def TimAgree (s : ByteArray) (sec ns v : Int) : Prop := v = 0 ∨ (v = 2 ∧ timP (cutH 46 s) (cutT 46 s) = none) ∨ (v = 1 ∧ timP (cutH 46 s) (cutT 46 s) = some (sec, ns))
theorem specTim_right {b : Bool} (s u : ByteArray) (w : World) (hs : s.size ≤ 2147483647) (hm : Minus s u b) (hd : DecOk (cutH 46 u)) (h18 : (cutH 46 u).size ≤ 18) (ht : ((cutT 46 u).size = 0 ∧ cutB 46 u = false) ∨ DigOk (cutT 46 u)) (hz : Zeros (cutT 46 u)) :
    Calls Tryd.prog 18 #[.string s] w (STim (secV b (vl 0 (cutH 46 u).data.toList) (nano (cutT 46 u).data.toList)) (nsV b (nano (cutT 46 u).data.toList)) 1 w) := by
  have hu : u.size ≤ s.size := by
    rcases hm with ⟨_, _, _, rfl⟩ | ⟨_, _, _, rfl⟩
    · rw [ext_size _ _ _ (Nat.le_refl _)]; omega
    · exact Nat.le_refl _
  have HC : Hid (cutI 46 u = .tuple #[.string (cutH 46 u), .string (cutT 46 u), .bool (cutB 46 u)]) := Lib.hid (cutV_eq 46 u)
  have hp := (size_digs ⟨hd.1, hd.2.2.1⟩).1
  rcases ht with ⟨h0, hc⟩ | h1
  · have e : (cutT 46 u).data.toList = [] := List.eq_nil_of_length_eq_zero (by rw [sz_l]; exact h0)
    exact sTim_right0 s u _ _ w hs hu (cutH_le _ _) (cutT_le _ _) HC (Lib.hid hm) hp hd h18 hc h0 _ _ rfl rfl (by rw [e]; intro c hc; simp at hc) hz
  · have hc : cutB 46 u = true := by
      cases hb : cutB 46 u with
      | true => rfl
      | false => have := cutT_none hb; have := h1.1; omega
    exact sTim_right1 s u _ _ w hs hu (cutH_le _ _) (cutT_le _ _) HC (Lib.hid hm) hp hd h18 hc (by have := h1.1; omega) h1 _ _ rfl rfl h1.2 hz
theorem specTim (s : ByteArray) (w : World) (hs : s.size ≤ 2147483647) : ∃ sec ns v, Calls Tryd.prog 18 #[.string s] w (STim sec ns v w) ∧ TimAgree s sec ns v := by
  by_cases h0 : s.size = 0
  · have hf : ¬ fc 46 s < s.size := by omega
    exact ⟨0, 0, 0, sTim_empty s w h0 (Lib.hid (by show cutV 46 s = _; unfold cutV; rw [if_neg hf])), .inl rfl⟩
  obtain ⟨b, u, hm⟩ : ∃ b u, Minus s u b := by
    by_cases hq : bt s 0 = 45
    · exact ⟨true, _, .inl ⟨rfl, by omega, hq, rfl⟩⟩
    · exact ⟨false, s, .inr ⟨rfl, by omega, hq, rfl⟩⟩
  have hu : u.size ≤ s.size := by
    rcases hm with ⟨_, _, _, rfl⟩ | ⟨_, _, _, rfl⟩
    · rw [ext_size _ _ _ (Nat.le_refl _)]; omega
    · exact Nat.le_refl _
  have HC : Hid (cutI 46 u = .tuple #[.string (cutH 46 u), .string (cutT 46 u), .bool (cutB 46 u)]) := Lib.hid (cutV_eq 46 u)
  have HM := Lib.hid hm
  have l1 := cutH_le 46 u
  have l2 := cutT_le 46 u
  by_cases hp : 0 < (cutH 46 u).size ∧ bt (cutH 46 u) 0 = 43
  · exact ⟨0, 0, 0, sTim_plus s u _ _ w hs hu l1 l2 HC HM hp, .inl rfl⟩
  have hp2 : bt (cutH 46 u) 0 ≠ 43 := by
    intro e
    by_cases hz : 0 < (cutH 46 u).size
    · exact hp ⟨hz, e⟩
    · unfold bt at e
      rw [dif_neg hz] at e
      omega
  have htz : (cutT 46 s) = cutT 46 u := by
    cases b with
    | true => exact (cut_minus hm).2
    | false =>
      rcases hm with ⟨h, _⟩ | ⟨_, _, _, rfl⟩
      · cases h
      · rfl
  have empt : (cutT 46 u).size = 0 → allDig (cutT 46 u).data.toList := fun h => by
    have e : (cutT 46 u).data.toList = [] := List.eq_nil_of_length_eq_zero (by rw [sz_l]; exact h)
    rw [e]; intro c hc; simp at hc
  by_cases hz : (cutH 46 u).size = 0
  · by_cases hz2 : (cutT 46 u).size = 0
    · cases hc : cutB 46 u with
      | false => rw [hc] at HC; exact ⟨0, 0, 0, sTim_none s u _ _ w hs hu l1 l2 HC HM hp2 hz hz2 rfl, .inl rfl⟩
      | true => rw [hc] at HC; exact ⟨0, 0, 0, sTim_noWhole0 s u _ _ w hs hu l1 l2 HC HM hp2 hz rfl hz2, .inl rfl⟩
    · have hc : cutB 46 u = true := by
        cases hb : cutB 46 u with
        | true => rfl
        | false => exact absurd (cutT_none hb) hz2
      by_cases hd : DigOk (cutT 46 u)
      · exact ⟨0, 0, 0, sTim_noWhole1 s u _ _ w hs hu l1 l2 HC HM hp2 hz hc hz2 hd, .inl rfl⟩
      · exact ⟨0, 0, 2, sTim_badPart0 s u _ _ w hs hu l1 l2 HC HM hp2 hz hz2 hd, .inr (.inl ⟨rfl, by rw [htz]; exact timP_badPart hz2 hd⟩)⟩
  by_cases hd1 : DigOk (cutH 46 u)
  case neg => exact ⟨0, 0, 2, sTim_badWhole s u _ _ w hs hu l1 l2 HC HM hp2 hz hd1, .inr (.inl ⟨rfl, timP_badWhole hm hp2 hz hd1⟩)⟩
  by_cases hz2 : (cutT 46 u).size = 0
  · by_cases hdc : DecOk (cutH 46 u)
    · by_cases h18 : (cutH 46 u).size ≤ 18
      · cases hc : cutB 46 u with
        | true => rw [hc] at HC; exact ⟨0, 0, 0, sTim_noPart s u _ _ w hs hu l1 l2 HC HM hp2 hdc h18 rfl hz2, .inl rfl⟩
        | false => exact ⟨_, _, 1, specTim_right s u w hs hm hdc h18 (.inl ⟨hz2, hc⟩) (fun j h1 h2 => by omega), .inr (.inr ⟨rfl, timP_right hm hdc (.inl hz2)⟩)⟩
      · exact ⟨0, 0, 0, sTim_long0 s u _ _ w hs hu l1 l2 HC HM hp2 hdc (by omega) hz2, .inl rfl⟩
    · exact ⟨0, 0, 0, sTim_great0 s u _ _ w hs hu l1 l2 HC HM hp2 hd1 hdc hz2, .inl rfl⟩
  by_cases hd2 : DigOk (cutT 46 u)
  case neg => exact ⟨0, 0, 2, sTim_badPart1 s u _ _ w hs hu l1 l2 HC HM hp2 hz hd1 hz2 hd2, .inr (.inl ⟨rfl, by rw [htz]; exact timP_badPart hz2 hd2⟩)⟩
  by_cases hdc : DecOk (cutH 46 u)
  · by_cases h18 : (cutH 46 u).size ≤ 18
    · have hc : cutB 46 u = true := by
        cases hb : cutB 46 u with
        | true => rfl
        | false => exact absurd (cutT_none hb) hz2
      by_cases hzz : Zeros (cutT 46 u)
      · exact ⟨_, _, 1, specTim_right s u w hs hm hdc h18 (.inr hd2) hzz, .inr (.inr ⟨rfl, timP_right hm hdc (.inr hd2)⟩)⟩
      · exact ⟨0, 0, 0, sTim_fine s u _ _ w hs hu l1 l2 HC HM hp2 hdc h18 hc hz2 hd2 _ _ rfl rfl hd2.2 hzz, .inl rfl⟩
    · exact ⟨0, 0, 0, sTim_long1 s u _ _ w hs hu l1 l2 HC HM hp2 hdc (by omega) hz2 hd2, .inl rfl⟩
  · exact ⟨0, 0, 0, sTim_great1 s u _ _ w hs hu l1 l2 HC HM hp2 hd1 hdc hz2 hd2, .inl rfl⟩

set_option maxRecDepth 20000 in
set_option maxHeartbeats 800000 in
theorem fnReadTime_big (s : ByteArray) (w : World) (hs : 2147483647 < s.size) (hm : s.size ≤ 9223372036854775807) :
    Calls Tryd.prog 5 #[.string s] w fun e w' => e = .returned (.bool true) ∧ Below w.heap.size w w' := by
  go_enter Tryd.func5, Tryd.ntmps5
  go_wp2_with fail
  go_ret
  exact ⟨rfl, Below.refl _ _⟩
set_option maxRecDepth 20000 in
set_option maxHeartbeats 1600000 in
theorem fnReadTime_of (s : ByteArray) (sec ns v s2 n2 : Int) (b : Bool) (w : World) (hs : s.size ≤ 2147483647)
    (hv : v = 0 ∨ (v = 2 ∧ b = false) ∨ (v = 1 ∧ b = true ∧ s2 = sec ∧ n2 = ns))
    (HS : Calls Tryd.prog 18 #[.string s] w (STim sec ns v w))
    (HI : ∀ w', Below w.heap.size w w' → Calls Tryd.prog 19 #[.string s] w' (ITim s2 n2 b w')) :
    Calls Tryd.prog 5 #[.string s] w fun e w' => e = .returned (.bool true) ∧ Below w.heap.size w w' := by
  have H1 := Lib.hid HS
  have H2 := Lib.hid HI
  clear HS HI
  go_enter Tryd.func5, Tryd.ntmps5
  go_wp2_with fail
  refine H1.out.mono ?_
  unfold STim
  rintro e w1 ⟨rfl, hb1⟩
  have HB1 := Lib.hid hb1
  clear hb1
  go_wp2_with fail
  refine (H2.out _ (HB1.out.alloc HB1.out.size _)).mono ?_
  unfold ITim
  rintro e w2 ⟨rfl, hb2⟩
  have HB2 : Hid (Below w.heap.size w w2) := Lib.hid ((HB1.out.alloc HB1.out.size _).trans (hb2.mono (HB1.out.alloc HB1.out.size _).size))
  have HK : Hid (Blk w2 w1.heap.size 33 [.int .i64 sec, .int .i64 ns]) := Lib.hid ((two_blk0 w1 _ _ _).below hb2 (two_blk0 w1 33 _ _).lt)
  have q0 : w2.cell? ⟨w1.heap.size, 0, none⟩ = some (.int .i64 sec) := by rw [HK.out.cell]; rfl
  have q1 : w2.cell? ⟨w1.heap.size, 1, none⟩ = some (.int .i64 ns) := by rw [HK.out.cell]; rfl
  have q2 := HK.out.lt
  have q3 := Nat.ne_of_lt q2
  clear hb2
  rcases hv with rfl | ⟨rfl, rfl⟩ | ⟨rfl, rfl, rfl, rfl⟩
  · go_wp2_with fail
    go_ret
    exact ⟨rfl, HB2.out.alloc HB2.out.size _⟩
  · go_wp2_with fail
    go_ret
    exact ⟨rfl, HB2.out.alloc HB2.out.size _⟩
  · go_wp2_with fail
    go_ret
    exact ⟨rfl, HB2.out.alloc HB2.out.size _⟩
theorem fnReadTime_walk {a a1 a2 : Addr} (s : ByteArray) (w : World) (hm : s.size ≤ 9223372036854775807)
    (hE : Err w.heap.size w 0 a) (hE1 : Err w.heap.size w 6 a1) (hE2 : Err w.heap.size w 7 a2) :
    Calls Tryd.prog 5 #[.string s] w fun e w' => e = .returned (.bool true) ∧ Below w.heap.size w w' := by
  by_cases hs : 2147483647 < s.size
  · exact fnReadTime_big s w hs hm
  obtain ⟨sec, ns, v, HS, hA⟩ := specTim s w (by omega)
  refine fnReadTime_of s sec ns v _ _ _ w (by omega) ?_ HS (fun w' hb => implTim s (cutH 46 s) (cutT 46 s) w' (by omega) (cutH_le _ _) (cutT_le _ _) (Lib.hid (cutV_eq 46 s)) (hE.more hb) (hE1.more hb) (hE2.more hb))
  rcases hA with h | ⟨h1, h2⟩ | ⟨h1, h2⟩
  · exact .inl h
  · exact .inr (.inl ⟨h1, by rw [h2]; rfl⟩)
  · exact .inr (.inr ⟨h1, by rw [h2]; exact ⟨rfl, rfl, rfl⟩⟩)
end Go.Proofs.YtlchagphjmfooaaDoor
