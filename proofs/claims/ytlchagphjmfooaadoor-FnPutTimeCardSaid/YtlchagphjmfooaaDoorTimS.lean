/- spec.ReadTime, case by case (written by gen_tims.py). -/
import Derived.Test.YtlchagphjmfooaaDoorTimR
namespace Go.Proofs.YtlchagphjmfooaaDoor
open Go.RowKit Go.PlainAid
set_option linter.unusedVariables false

open Classical in
noncomputable def digB (s : ByteArray) : Bool := decide (DigOk s)
theorem digB_yes {s : ByteArray} (h : DigOk s) : digB s = true := by simp [digB, h]
theorem digB_no {s : ByteArray} (h : ¬ DigOk s) : digB s = false := by simp [digB, h]
theorem digs_b (h : ByteArray) (w : World) (hs : h.size ≤ 4611686018427387904) : Calls Tryd.prog 38 #[.string h] w fun e w' => e = .returned (.bool (digB h)) ∧ w = w' := by
  by_cases hd : DigOk h
  · rw [digB_yes hd]; exact digs_yes h w hs hd
  · rw [digB_no hd]; exact digs_no h w hs hd
theorem sTimInfo : (Tryd.prog.info? 33).map (·.size) = some 2 := by kernel_rfl
def STim (sec ns v : Int) (w : World) (e : Ending) (w' : World) : Prop := e = .returned (.tuple #[.agg #[.int .i64 sec, .int .i64 ns], .int .i64 v]) ∧ Below w.heap.size w w'
/-- The minus sign, and what is behind it. -/
def Minus (s u : ByteArray) (b : Bool) : Prop := (b = true ∧ 0 < s.size ∧ bt s 0 = 45 ∧ u = s.extract 1 s.size) ∨ (b = false ∧ 0 < s.size ∧ bt s 0 ≠ 45 ∧ u = s)
/-- The digits taken by then. -/
def nacc (l : List UInt8) (i : Nat) : Nat := vl 0 ((nineL l l.length).take i)
theorem nacc_le (l : List UInt8) (i : Nat) : nacc l i ≤ nano l := vl_take_le _ _
theorem nacc_more (l : List UInt8) (i : Nat) (hi : 9 ≤ i) : nacc l (i + 1) = nacc l i := by
  unfold nacc
  rw [List.take_of_length_le (by rw [nineL_len]; omega), List.take_of_length_le (by rw [nineL_len]; omega)]
theorem nacc_all (l : List UInt8) (i : Nat) (hi : 9 ≤ i) : nacc l i = nano l := by
  unfold nacc nano
  rw [List.take_of_length_le (by rw [nineL_len]; omega)]
theorem nacc_step (l : List UInt8) (i : Nat) (hi : i < 9) (c : UInt8) (h : (nineL l l.length)[i]? = some c) : nacc l (i + 1) = nacc l i * 10 + (c.toNat - 48) := by
  unfold nacc
  have hl : i < (nineL l l.length).length := by rw [nineL_len]; exact hi
  have e : (nineL l l.length).take (i + 1) = (nineL l l.length).take i ++ [c] := by
    rw [List.take_succ_eq_append_getElem hl]
    rw [List.getElem?_eq_getElem hl] at h
    rw [Option.some.inj h]
  rw [e, vl_snoc]
theorem nacc_in (s : ByteArray) (i : Nat) (hi : i < 9) (hs : i < s.size) (d : Int) (hd : bt s i = 48 + d) (h0 : 0 ≤ d) : ((nacc s.data.toList (i + 1) : Nat) : Int) = (nacc s.data.toList i : Nat) * 10 + d := by
  obtain ⟨c, e1, e2⟩ := bt_of s i hs
  have hl : s.data.toList.length = s.size := (Lib.size_eq s).symm
  rw [nacc_step _ i hi c (by rw [nineL_get _ _ _ hi, if_pos ⟨by omega, by omega⟩, e1])]
  omega
theorem nacc_out (s : ByteArray) (i : Nat) (hi : i < 9) (hs : ¬ i < s.size) : ((nacc s.data.toList (i + 1) : Nat) : Int) = (nacc s.data.toList i : Nat) * 10 + 0 := by
  have hl : s.data.toList.length = s.size := (Lib.size_eq s).symm
  rw [nacc_step _ i hi 48 (by rw [nineL_get _ _ _ hi, if_neg (by omega)])]
  have : (48 : UInt8).toNat = 48 := rfl
  omega
def Zeros (t : ByteArray) : Prop := ∀ j, 9 ≤ j → j < t.size → bt t j = 48

set_option maxRecDepth 20000 in
set_option maxHeartbeats 3200000 in
theorem sTim_plus {c b : Bool} (s u h t : ByteArray) (w : World) (hs : s.size ≤ 2147483647) (hu : u.size ≤ s.size) (hhu : h.size ≤ u.size) (htu : t.size ≤ u.size) (HC : Hid (cutI 46 u = .tuple #[.string h, .string t, .bool c])) (HMn : Hid (Minus s u b)) (hp : 0 < h.size ∧ bt h 0 = 43) :
    Calls Tryd.prog 18 #[.string s] w (STim 0 0 0 w) := by
  have hu2 : u.size ≤ 4611686018427387904 := by omega
  have hh : h.size ≤ 4611686018427387904 := by omega
  have ht : t.size ≤ 4611686018427387904 := by omega
  have hbs := get_bt s
  have hbh := get_bt h
  have hbt := get_bt t
  have hc1 : (bt h 0 == 43) = true := by rw [hp.2]; rfl
  have hp1 := hp.1
  clear hp
  rcases HMn.out with ⟨rfl, hm1, hm2, rfl⟩ | ⟨rfl, hm1, hm2, rfl⟩
  · have hm3 : (bt s 0 == 45) = true := by rw [hm2]; rfl
    have hm4 : (0 : Int) < (s.size : Int) := by omega
    have hm5 : (1 : Int) ≤ (s.size : Int) := by omega
    clear hm2 HMn
    go_enter Tryd.func18, Tryd.ntmps18
    go_wp2_with (first
          | (go_at_call 36; refine (specCutI _ _ _ (by assumption) (by decide)).mono ?_; rw [HC.out]; rintro e w' ⟨rfl, n1, rfl⟩)
          | fail)
    go_loop [33] (fun v => v = .int .i64 0) (fun _ => 0)
    case atStart => rfl
    case round =>
      obtain rfl := hrel
      go_wp2
      refine bodyPost_ret (results_row_tmp1 rfl _ _ w.heap.size _ [.int .i64 0, .int .i64 0] _ rfl (two_blk w _ _ _ _ _ n1) Tryd.underlying33 rfl sTimInfo) rfl ?_
      exact ⟨rfl, two_below _ _ _ _ _ _ _⟩
  · have hm3 : (bt u 0 == 45) = false := by rw [beq_eq_false_iff_ne]; exact hm2
    have hm4 : (0 : Int) < (u.size : Int) := by omega
    clear hm2 HMn
    go_enter Tryd.func18, Tryd.ntmps18
    go_wp2_with (first
          | (go_at_call 36; refine (specCutI _ _ _ (by assumption) (by decide)).mono ?_; rw [HC.out]; rintro e w' ⟨rfl, n1, rfl⟩)
          | fail)
    go_loop [33] (fun v => v = .int .i64 0) (fun _ => 0)
    case atStart => rfl
    case round =>
      obtain rfl := hrel
      go_wp2
      refine bodyPost_ret (results_row_tmp1 rfl _ _ w.heap.size _ [.int .i64 0, .int .i64 0] _ rfl (two_blk w _ _ _ _ _ n1) Tryd.underlying33 rfl sTimInfo) rfl ?_
      exact ⟨rfl, two_below _ _ _ _ _ _ _⟩

set_option maxRecDepth 20000 in
set_option maxHeartbeats 3200000 in
theorem sTim_badWhole {c b : Bool} (s u h t : ByteArray) (w : World) (hs : s.size ≤ 2147483647) (hu : u.size ≤ s.size) (hhu : h.size ≤ u.size) (htu : t.size ≤ u.size) (HC : Hid (cutI 46 u = .tuple #[.string h, .string t, .bool c])) (HMn : Hid (Minus s u b)) (hp : bt h 0 ≠ 43) (hz : ¬ h.size = 0) (hd : ¬ DigOk h) :
    Calls Tryd.prog 18 #[.string s] w (STim 0 0 2 w) := by
  have hu2 : u.size ≤ 4611686018427387904 := by omega
  have hh : h.size ≤ 4611686018427387904 := by omega
  have ht : t.size ≤ 4611686018427387904 := by omega
  have hbs := get_bt s
  have hbh := get_bt h
  have hbt := get_bt t
  have hc0 : (bt h 0 == 43) = false := by rw [beq_eq_false_iff_ne]; exact hp
  clear hp
  obtain ⟨e1, e2⟩ := empty_no hz
  have HH : Hid (digB h = false) := Lib.hid (digB_no hd)
  have HT : Hid (digB t = digB t) := Lib.hid rfl
  clear hz hd
  rcases HMn.out with ⟨rfl, hm1, hm2, rfl⟩ | ⟨rfl, hm1, hm2, rfl⟩
  · have hm3 : (bt s 0 == 45) = true := by rw [hm2]; rfl
    have hm4 : (0 : Int) < (s.size : Int) := by omega
    have hm5 : (1 : Int) ≤ (s.size : Int) := by omega
    clear hm2 HMn
    go_enter Tryd.func18, Tryd.ntmps18
    go_wp2_with (first
          | (go_at_call 36; refine (specCutI _ _ _ (by assumption) (by decide)).mono ?_; rw [HC.out]; rintro e w' ⟨rfl, n1, rfl⟩)
          | fail)
    go_loop [33] (fun v => ∃ k : Nat, k ≤ h.size ∧ v = .int .i64 k) (fun v => h.size - (intOf v).toNat)
    case atStart => exact ⟨0, by omega, rfl⟩
    case round =>
      obtain ⟨k, hk, rfl⟩ := hrel
      by_cases hlt : k < h.size
      · by_cases hz : k = 0
        · subst hz
          go_wp2
          go_round
          case rel => exact ⟨1, by omega, by go_num⟩
          case measure => simp [intOf]; omega
        · have hz1 : ((k : Int) == 0) = false := by rw [beq_eq_false_iff_ne]; omega
          by_cases hc : bt h k = 43
          · have hc1 : (bt h k == 43) = true := by rw [hc]; rfl
            clear hc
            go_wp2
            go_round
            case rel => exact ⟨k + 1, by omega, by go_num⟩
            case measure => simp [intOf]; omega
          · have hc1 : (bt h k == 43) = false := by rw [beq_eq_false_iff_ne]; exact hc
            clear hc
            go_wp2
            go_round
            case rel => exact ⟨k + 1, by omega, by go_num⟩
            case measure => simp [intOf]; omega
      · obtain rfl : k = h.size := by omega
        go_wp2_with (first
              | (go_at_call 36; refine (specCutI _ _ _ (by assumption) (by decide)).mono ?_; rw [HC.out]; rintro e w' ⟨rfl, n1, rfl⟩)
              | (go_at_call 38; refine (digs_b _ _ (by assumption)).mono ?_; (first | rw [HH.out] | rw [HT.out]); rintro e w' ⟨rfl, rfl⟩)
              | fail)
        refine bodyPost_ret (results_row_tmp1 rfl _ _ w.heap.size _ [.int .i64 0, .int .i64 0] _ rfl (two_blk w _ _ _ _ _ n1) Tryd.underlying33 rfl sTimInfo) rfl ?_
        exact ⟨rfl, two_below _ _ _ _ _ _ _⟩
  · have hm3 : (bt u 0 == 45) = false := by rw [beq_eq_false_iff_ne]; exact hm2
    have hm4 : (0 : Int) < (u.size : Int) := by omega
    clear hm2 HMn
    go_enter Tryd.func18, Tryd.ntmps18
    go_wp2_with (first
          | (go_at_call 36; refine (specCutI _ _ _ (by assumption) (by decide)).mono ?_; rw [HC.out]; rintro e w' ⟨rfl, n1, rfl⟩)
          | fail)
    go_loop [33] (fun v => ∃ k : Nat, k ≤ h.size ∧ v = .int .i64 k) (fun v => h.size - (intOf v).toNat)
    case atStart => exact ⟨0, by omega, rfl⟩
    case round =>
      obtain ⟨k, hk, rfl⟩ := hrel
      by_cases hlt : k < h.size
      · by_cases hz : k = 0
        · subst hz
          go_wp2
          go_round
          case rel => exact ⟨1, by omega, by go_num⟩
          case measure => simp [intOf]; omega
        · have hz1 : ((k : Int) == 0) = false := by rw [beq_eq_false_iff_ne]; omega
          by_cases hc : bt h k = 43
          · have hc1 : (bt h k == 43) = true := by rw [hc]; rfl
            clear hc
            go_wp2
            go_round
            case rel => exact ⟨k + 1, by omega, by go_num⟩
            case measure => simp [intOf]; omega
          · have hc1 : (bt h k == 43) = false := by rw [beq_eq_false_iff_ne]; exact hc
            clear hc
            go_wp2
            go_round
            case rel => exact ⟨k + 1, by omega, by go_num⟩
            case measure => simp [intOf]; omega
      · obtain rfl : k = h.size := by omega
        go_wp2_with (first
              | (go_at_call 36; refine (specCutI _ _ _ (by assumption) (by decide)).mono ?_; rw [HC.out]; rintro e w' ⟨rfl, n1, rfl⟩)
              | (go_at_call 38; refine (digs_b _ _ (by assumption)).mono ?_; (first | rw [HH.out] | rw [HT.out]); rintro e w' ⟨rfl, rfl⟩)
              | fail)
        refine bodyPost_ret (results_row_tmp1 rfl _ _ w.heap.size _ [.int .i64 0, .int .i64 0] _ rfl (two_blk w _ _ _ _ _ n1) Tryd.underlying33 rfl sTimInfo) rfl ?_
        exact ⟨rfl, two_below _ _ _ _ _ _ _⟩

set_option maxRecDepth 20000 in
set_option maxHeartbeats 3200000 in
theorem sTim_badPart0 {c b : Bool} (s u h t : ByteArray) (w : World) (hs : s.size ≤ 2147483647) (hu : u.size ≤ s.size) (hhu : h.size ≤ u.size) (htu : t.size ≤ u.size) (HC : Hid (cutI 46 u = .tuple #[.string h, .string t, .bool c])) (HMn : Hid (Minus s u b)) (hp : bt h 0 ≠ 43) (hz : h.size = 0) (hz2 : ¬ t.size = 0) (hd : ¬ DigOk t) :
    Calls Tryd.prog 18 #[.string s] w (STim 0 0 2 w) := by
  have hu2 : u.size ≤ 4611686018427387904 := by omega
  have hh : h.size ≤ 4611686018427387904 := by omega
  have ht : t.size ≤ 4611686018427387904 := by omega
  have hbs := get_bt s
  have hbh := get_bt h
  have hbt := get_bt t
  have hc0 : (bt h 0 == 43) = false := by rw [beq_eq_false_iff_ne]; exact hp
  clear hp
  obtain ⟨e1, e2⟩ := empty_yes hz
  obtain ⟨e3, e4⟩ := empty_no hz2
  have HH : Hid (digB t = false) := Lib.hid (digB_no hd)
  have HT : Hid (digB h = digB h) := Lib.hid rfl
  clear hz2 hd
  rcases HMn.out with ⟨rfl, hm1, hm2, rfl⟩ | ⟨rfl, hm1, hm2, rfl⟩
  · have hm3 : (bt s 0 == 45) = true := by rw [hm2]; rfl
    have hm4 : (0 : Int) < (s.size : Int) := by omega
    have hm5 : (1 : Int) ≤ (s.size : Int) := by omega
    clear hm2 HMn
    go_enter Tryd.func18, Tryd.ntmps18
    go_wp2_with (first
          | (go_at_call 36; refine (specCutI _ _ _ (by assumption) (by decide)).mono ?_; rw [HC.out]; rintro e w' ⟨rfl, n1, rfl⟩)
          | fail)
    go_loop [33] (fun v => v = .int .i64 0) (fun _ => 0)
    case atStart => rfl
    case round =>
      obtain rfl := hrel
      go_wp2_with (first
            | (go_at_call 36; refine (specCutI _ _ _ (by assumption) (by decide)).mono ?_; rw [HC.out]; rintro e w' ⟨rfl, n1, rfl⟩)
            | (go_at_call 38; refine (digs_b _ _ (by assumption)).mono ?_; (first | rw [HH.out] | rw [HT.out]); rintro e w' ⟨rfl, rfl⟩)
            | fail)
      refine bodyPost_ret (results_row_tmp1 rfl _ _ w.heap.size _ [.int .i64 0, .int .i64 0] _ rfl (two_blk w _ _ _ _ _ n1) Tryd.underlying33 rfl sTimInfo) rfl ?_
      exact ⟨rfl, two_below _ _ _ _ _ _ _⟩
  · have hm3 : (bt u 0 == 45) = false := by rw [beq_eq_false_iff_ne]; exact hm2
    have hm4 : (0 : Int) < (u.size : Int) := by omega
    clear hm2 HMn
    go_enter Tryd.func18, Tryd.ntmps18
    go_wp2_with (first
          | (go_at_call 36; refine (specCutI _ _ _ (by assumption) (by decide)).mono ?_; rw [HC.out]; rintro e w' ⟨rfl, n1, rfl⟩)
          | fail)
    go_loop [33] (fun v => v = .int .i64 0) (fun _ => 0)
    case atStart => rfl
    case round =>
      obtain rfl := hrel
      go_wp2_with (first
            | (go_at_call 36; refine (specCutI _ _ _ (by assumption) (by decide)).mono ?_; rw [HC.out]; rintro e w' ⟨rfl, n1, rfl⟩)
            | (go_at_call 38; refine (digs_b _ _ (by assumption)).mono ?_; (first | rw [HH.out] | rw [HT.out]); rintro e w' ⟨rfl, rfl⟩)
            | fail)
      refine bodyPost_ret (results_row_tmp1 rfl _ _ w.heap.size _ [.int .i64 0, .int .i64 0] _ rfl (two_blk w _ _ _ _ _ n1) Tryd.underlying33 rfl sTimInfo) rfl ?_
      exact ⟨rfl, two_below _ _ _ _ _ _ _⟩

set_option maxRecDepth 20000 in
set_option maxHeartbeats 3200000 in
theorem sTim_badPart1 {c b : Bool} (s u h t : ByteArray) (w : World) (hs : s.size ≤ 2147483647) (hu : u.size ≤ s.size) (hhu : h.size ≤ u.size) (htu : t.size ≤ u.size) (HC : Hid (cutI 46 u = .tuple #[.string h, .string t, .bool c])) (HMn : Hid (Minus s u b)) (hp : bt h 0 ≠ 43) (hz : ¬ h.size = 0) (hd1 : DigOk h) (hz2 : ¬ t.size = 0) (hd : ¬ DigOk t) :
    Calls Tryd.prog 18 #[.string s] w (STim 0 0 2 w) := by
  have hu2 : u.size ≤ 4611686018427387904 := by omega
  have hh : h.size ≤ 4611686018427387904 := by omega
  have ht : t.size ≤ 4611686018427387904 := by omega
  have hbs := get_bt s
  have hbh := get_bt h
  have hbt := get_bt t
  have hc0 : (bt h 0 == 43) = false := by rw [beq_eq_false_iff_ne]; exact hp
  clear hp
  obtain ⟨e1, e2⟩ := empty_no hz
  obtain ⟨e3, e4⟩ := empty_no hz2
  have HH : Hid (digB h = true) := Lib.hid (digB_yes hd1)
  have HT : Hid (digB t = false) := Lib.hid (digB_no hd)
  clear hz hz2 hd hd1
  rcases HMn.out with ⟨rfl, hm1, hm2, rfl⟩ | ⟨rfl, hm1, hm2, rfl⟩
  · have hm3 : (bt s 0 == 45) = true := by rw [hm2]; rfl
    have hm4 : (0 : Int) < (s.size : Int) := by omega
    have hm5 : (1 : Int) ≤ (s.size : Int) := by omega
    clear hm2 HMn
    go_enter Tryd.func18, Tryd.ntmps18
    go_wp2_with (first
          | (go_at_call 36; refine (specCutI _ _ _ (by assumption) (by decide)).mono ?_; rw [HC.out]; rintro e w' ⟨rfl, n1, rfl⟩)
          | fail)
    go_loop [33] (fun v => ∃ k : Nat, k ≤ h.size ∧ v = .int .i64 k) (fun v => h.size - (intOf v).toNat)
    case atStart => exact ⟨0, by omega, rfl⟩
    case round =>
      obtain ⟨k, hk, rfl⟩ := hrel
      by_cases hlt : k < h.size
      · by_cases hz : k = 0
        · subst hz
          go_wp2
          go_round
          case rel => exact ⟨1, by omega, by go_num⟩
          case measure => simp [intOf]; omega
        · have hz1 : ((k : Int) == 0) = false := by rw [beq_eq_false_iff_ne]; omega
          by_cases hc : bt h k = 43
          · have hc1 : (bt h k == 43) = true := by rw [hc]; rfl
            clear hc
            go_wp2
            go_round
            case rel => exact ⟨k + 1, by omega, by go_num⟩
            case measure => simp [intOf]; omega
          · have hc1 : (bt h k == 43) = false := by rw [beq_eq_false_iff_ne]; exact hc
            clear hc
            go_wp2
            go_round
            case rel => exact ⟨k + 1, by omega, by go_num⟩
            case measure => simp [intOf]; omega
      · obtain rfl : k = h.size := by omega
        go_wp2_with (first
              | (go_at_call 36; refine (specCutI _ _ _ (by assumption) (by decide)).mono ?_; rw [HC.out]; rintro e w' ⟨rfl, n1, rfl⟩)
              | (go_at_call 38; refine (digs_b _ _ (by assumption)).mono ?_; (first | rw [HH.out] | rw [HT.out]); rintro e w' ⟨rfl, rfl⟩)
              | fail)
        refine bodyPost_ret (results_row_tmp1 rfl _ _ w.heap.size _ [.int .i64 0, .int .i64 0] _ rfl (two_blk w _ _ _ _ _ n1) Tryd.underlying33 rfl sTimInfo) rfl ?_
        exact ⟨rfl, two_below _ _ _ _ _ _ _⟩
  · have hm3 : (bt u 0 == 45) = false := by rw [beq_eq_false_iff_ne]; exact hm2
    have hm4 : (0 : Int) < (u.size : Int) := by omega
    clear hm2 HMn
    go_enter Tryd.func18, Tryd.ntmps18
    go_wp2_with (first
          | (go_at_call 36; refine (specCutI _ _ _ (by assumption) (by decide)).mono ?_; rw [HC.out]; rintro e w' ⟨rfl, n1, rfl⟩)
          | fail)
    go_loop [33] (fun v => ∃ k : Nat, k ≤ h.size ∧ v = .int .i64 k) (fun v => h.size - (intOf v).toNat)
    case atStart => exact ⟨0, by omega, rfl⟩
    case round =>
      obtain ⟨k, hk, rfl⟩ := hrel
      by_cases hlt : k < h.size
      · by_cases hz : k = 0
        · subst hz
          go_wp2
          go_round
          case rel => exact ⟨1, by omega, by go_num⟩
          case measure => simp [intOf]; omega
        · have hz1 : ((k : Int) == 0) = false := by rw [beq_eq_false_iff_ne]; omega
          by_cases hc : bt h k = 43
          · have hc1 : (bt h k == 43) = true := by rw [hc]; rfl
            clear hc
            go_wp2
            go_round
            case rel => exact ⟨k + 1, by omega, by go_num⟩
            case measure => simp [intOf]; omega
          · have hc1 : (bt h k == 43) = false := by rw [beq_eq_false_iff_ne]; exact hc
            clear hc
            go_wp2
            go_round
            case rel => exact ⟨k + 1, by omega, by go_num⟩
            case measure => simp [intOf]; omega
      · obtain rfl : k = h.size := by omega
        go_wp2_with (first
              | (go_at_call 36; refine (specCutI _ _ _ (by assumption) (by decide)).mono ?_; rw [HC.out]; rintro e w' ⟨rfl, n1, rfl⟩)
              | (go_at_call 38; refine (digs_b _ _ (by assumption)).mono ?_; (first | rw [HH.out] | rw [HT.out]); rintro e w' ⟨rfl, rfl⟩)
              | fail)
        refine bodyPost_ret (results_row_tmp1 rfl _ _ w.heap.size _ [.int .i64 0, .int .i64 0] _ rfl (two_blk w _ _ _ _ _ n1) Tryd.underlying33 rfl sTimInfo) rfl ?_
        exact ⟨rfl, two_below _ _ _ _ _ _ _⟩
end Go.Proofs.YtlchagphjmfooaaDoor
