/- spec.ReadTime, case by case (written by gen_tims.py). spec.ReadTime, more cases (written by gen_tims.py). spec.ReadTime where it reads the part of a second (written by gen_tims.py). -/
import Derived.Test.YtepeehjajhehfaaGreatDoorMA5
namespace Go.Proofs.YtepeehjajhehfaaGreatDoor
open Go.RowKit Go.PlainAid
set_option linter.unusedVariables false

open Classical in
noncomputable def digB (s : ByteArray) : Bool := decide (DigOk s)
theorem digB_yes {s : ByteArray} (h : DigOk s) : digB s = true := by simp [digB, h]
theorem digB_no {s : ByteArray} (h : ¬ DigOk s) : digB s = false := by simp [digB, h]
theorem digs_b (h : ByteArray) (w : World) (hs : h.size ≤ 4611686018427387904) : Calls Tryz.prog 56 #[.string h] w fun e w' => e = .returned (.bool (digB h)) ∧ w = w' := by
  by_cases hd : DigOk h
  · rw [digB_yes hd]; exact digs_yes h w hs hd
  · rw [digB_no hd]; exact digs_no h w hs hd
theorem sTimInfo : (Tryz.prog.info? 29).map (·.size) = some 2 := by kernel_rfl
def STim (sec ns v : Int) (w : World) (e : Ending) (w' : World) : Prop := e = .returned (.tuple #[.agg #[.int .i64 sec, .int .i64 ns], .int .i64 v]) ∧ Below w.heap.size w w'
/-- The minus sign, and what is behind it. -/
def Minus (s u : ByteArray) (b : Bool) : Prop := (b = true ∧ 0 < s.size ∧ bt s 0 = 45 ∧ u = s.extract 1 s.size) ∨ (b = false ∧ 0 < s.size ∧ bt s 0 ≠ 45 ∧ u = s)
/-- The digits taken by then. -/
def nacc (l : List UInt8) (i : Nat) : Nat := vl 0 ((nineL l l.length).take i)
theorem nacc_le (l : List UInt8) (i : Nat) : nacc l i ≤ nano l := vl_take_le _ _
theorem nacc_more (l : List UInt8) (i : Nat) (hi : 9 ≤ i) : nacc l (i + 1) = nacc l i := by
  unfold nacc
  rw [List.take_of_length_le (by rw [nineL_len]; omega), List.take_of_length_le (by rw [nineL_len]; omega)]
theorem nacc_all (l : List UInt8) (i : Nat) (hi : 9 ≤ i) : nacc l i = nano l := by
  unfold nacc nano
  rw [List.take_of_length_le (by rw [nineL_len]; omega)]
theorem nacc_step (l : List UInt8) (i : Nat) (hi : i < 9) (c : UInt8) (h : (nineL l l.length)[i]? = some c) : nacc l (i + 1) = nacc l i * 10 + (c.toNat - 48) := by
  unfold nacc
  have hl : i < (nineL l l.length).length := by rw [nineL_len]; exact hi
  have e : (nineL l l.length).take (i + 1) = (nineL l l.length).take i ++ [c] := by
    rw [List.take_succ_eq_append_getElem hl]
    rw [List.getElem?_eq_getElem hl] at h
    rw [Option.some.inj h]
  rw [e, vl_snoc]
theorem nacc_in (s : ByteArray) (i : Nat) (hi : i < 9) (hs : i < s.size) (d : Int) (hd : bt s i = 48 + d) (h0 : 0 ≤ d) : ((nacc s.data.toList (i + 1) : Nat) : Int) = (nacc s.data.toList i : Nat) * 10 + d := by
  obtain ⟨c, e1, e2⟩ := bt_of s i hs
  have hl : s.data.toList.length = s.size := (Lib.size_eq s).symm
  rw [nacc_step _ i hi c (by rw [nineL_get _ _ _ hi, if_pos ⟨by omega, by omega⟩, e1])]
  omega
theorem nacc_out (s : ByteArray) (i : Nat) (hi : i < 9) (hs : ¬ i < s.size) : ((nacc s.data.toList (i + 1) : Nat) : Int) = (nacc s.data.toList i : Nat) * 10 + 0 := by
  have hl : s.data.toList.length = s.size := (Lib.size_eq s).symm
  rw [nacc_step _ i hi 48 (by rw [nineL_get _ _ _ hi, if_neg (by omega)])]
  have : (48 : UInt8).toNat = 48 := rfl
  omega
def Zeros (t : ByteArray) : Prop := ∀ j, 9 ≤ j → j < t.size → bt t j = 48

set_option maxRecDepth 20000 in
set_option maxHeartbeats 3200000 in
theorem sTim_plus {c b : Bool} (s u h t : ByteArray) (w : World) (hs : s.size ≤ 2147483647) (hu : u.size ≤ s.size) (hhu : h.size ≤ u.size) (htu : t.size ≤ u.size) (HC : Hid (cutI 46 u = .tuple #[.string h, .string t, .bool c])) (HMn : Hid (Minus s u b)) (hp : 0 < h.size ∧ bt h 0 = 43) :
    Calls Tryz.prog 35 #[.string s] w (STim 0 0 0 w) := by
  have hu2 : u.size ≤ 4611686018427387904 := by omega
  have hh : h.size ≤ 4611686018427387904 := by omega
  have ht : t.size ≤ 4611686018427387904 := by omega
  have hbs := get_bt s
  have hbh := get_bt h
  have hbt := get_bt t
  have hc1 : (bt h 0 == 43) = true := by rw [hp.2]; rfl
  have hp1 := hp.1
  clear hp
  rcases HMn.out with ⟨rfl, hm1, hm2, rfl⟩ | ⟨rfl, hm1, hm2, rfl⟩
  · have hm3 : (bt s 0 == 45) = true := by rw [hm2]; rfl
    have hm4 : (0 : Int) < (s.size : Int) := by omega
    have hm5 : (1 : Int) ≤ (s.size : Int) := by omega
    clear hm2 HMn
    go_enter Tryz.func35, Tryz.ntmps35
    go_wp2_with (first
          | (go_at_call 44; refine (specCutI _ _ _ (by assumption) (by decide)).mono ?_; rw [HC.out]; rintro e w' ⟨rfl, n1, rfl⟩)
          | fail)
    go_loop [33] (fun v => v = .int .i64 0) (fun _ => 0)
    case atStart => rfl
    case round =>
      obtain rfl := hrel
      go_wp2
      refine bodyPost_ret (results_row_tmp1 rfl _ _ w.heap.size _ [.int .i64 0, .int .i64 0] _ rfl (two_blk w _ _ _ _ _ n1) Tryz.underlying29 rfl sTimInfo) rfl ?_
      exact ⟨rfl, two_below _ _ _ _ _ _ _⟩
  · have hm3 : (bt u 0 == 45) = false := by rw [beq_eq_false_iff_ne]; exact hm2
    have hm4 : (0 : Int) < (u.size : Int) := by omega
    clear hm2 HMn
    go_enter Tryz.func35, Tryz.ntmps35
    go_wp2_with (first
          | (go_at_call 44; refine (specCutI _ _ _ (by assumption) (by decide)).mono ?_; rw [HC.out]; rintro e w' ⟨rfl, n1, rfl⟩)
          | fail)
    go_loop [33] (fun v => v = .int .i64 0) (fun _ => 0)
    case atStart => rfl
    case round =>
      obtain rfl := hrel
      go_wp2
      refine bodyPost_ret (results_row_tmp1 rfl _ _ w.heap.size _ [.int .i64 0, .int .i64 0] _ rfl (two_blk w _ _ _ _ _ n1) Tryz.underlying29 rfl sTimInfo) rfl ?_
      exact ⟨rfl, two_below _ _ _ _ _ _ _⟩

set_option maxRecDepth 20000 in
set_option maxHeartbeats 3200000 in
theorem sTim_badWhole {c b : Bool} (s u h t : ByteArray) (w : World) (hs : s.size ≤ 2147483647) (hu : u.size ≤ s.size) (hhu : h.size ≤ u.size) (htu : t.size ≤ u.size) (HC : Hid (cutI 46 u = .tuple #[.string h, .string t, .bool c])) (HMn : Hid (Minus s u b)) (hp : bt h 0 ≠ 43) (hz : ¬ h.size = 0) (hd : ¬ DigOk h) :
    Calls Tryz.prog 35 #[.string s] w (STim 0 0 2 w) := by
  have hu2 : u.size ≤ 4611686018427387904 := by omega
  have hh : h.size ≤ 4611686018427387904 := by omega
  have ht : t.size ≤ 4611686018427387904 := by omega
  have hbs := get_bt s
  have hbh := get_bt h
  have hbt := get_bt t
  have hc0 : (bt h 0 == 43) = false := by rw [beq_eq_false_iff_ne]; exact hp
  clear hp
  obtain ⟨e1, e2⟩ := empty_no hz
  have HH : Hid (digB h = false) := Lib.hid (digB_no hd)
  have HT : Hid (digB t = digB t) := Lib.hid rfl
  clear hz hd
  rcases HMn.out with ⟨rfl, hm1, hm2, rfl⟩ | ⟨rfl, hm1, hm2, rfl⟩
  · have hm3 : (bt s 0 == 45) = true := by rw [hm2]; rfl
    have hm4 : (0 : Int) < (s.size : Int) := by omega
    have hm5 : (1 : Int) ≤ (s.size : Int) := by omega
    clear hm2 HMn
    go_enter Tryz.func35, Tryz.ntmps35
    go_wp2_with (first
          | (go_at_call 44; refine (specCutI _ _ _ (by assumption) (by decide)).mono ?_; rw [HC.out]; rintro e w' ⟨rfl, n1, rfl⟩)
          | fail)
    go_loop [33] (fun v => ∃ k : Nat, k ≤ h.size ∧ v = .int .i64 k) (fun v => h.size - (intOf v).toNat)
    case atStart => exact ⟨0, by omega, rfl⟩
    case round =>
      obtain ⟨k, hk, rfl⟩ := hrel
      by_cases hlt : k < h.size
      · by_cases hz : k = 0
        · subst hz
          go_wp2
          go_round
          case rel => exact ⟨1, by omega, by go_num⟩
          case measure => simp [intOf]; omega
        · have hz1 : ((k : Int) == 0) = false := by rw [beq_eq_false_iff_ne]; omega
          by_cases hc : bt h k = 43
          · have hc1 : (bt h k == 43) = true := by rw [hc]; rfl
            clear hc
            go_wp2
            go_round
            case rel => exact ⟨k + 1, by omega, by go_num⟩
            case measure => simp [intOf]; omega
          · have hc1 : (bt h k == 43) = false := by rw [beq_eq_false_iff_ne]; exact hc
            clear hc
            go_wp2
            go_round
            case rel => exact ⟨k + 1, by omega, by go_num⟩
            case measure => simp [intOf]; omega
      · obtain rfl : k = h.size := by omega
        go_wp2_with (first
              | (go_at_call 44; refine (specCutI _ _ _ (by assumption) (by decide)).mono ?_; rw [HC.out]; rintro e w' ⟨rfl, n1, rfl⟩)
              | (go_at_call 56; refine (digs_b _ _ (by assumption)).mono ?_; (first | rw [HH.out] | rw [HT.out]); rintro e w' ⟨rfl, rfl⟩)
              | fail)
        refine bodyPost_ret (results_row_tmp1 rfl _ _ w.heap.size _ [.int .i64 0, .int .i64 0] _ rfl (two_blk w _ _ _ _ _ n1) Tryz.underlying29 rfl sTimInfo) rfl ?_
        exact ⟨rfl, two_below _ _ _ _ _ _ _⟩
  · have hm3 : (bt u 0 == 45) = false := by rw [beq_eq_false_iff_ne]; exact hm2
    have hm4 : (0 : Int) < (u.size : Int) := by omega
    clear hm2 HMn
    go_enter Tryz.func35, Tryz.ntmps35
    go_wp2_with (first
          | (go_at_call 44; refine (specCutI _ _ _ (by assumption) (by decide)).mono ?_; rw [HC.out]; rintro e w' ⟨rfl, n1, rfl⟩)
          | fail)
    go_loop [33] (fun v => ∃ k : Nat, k ≤ h.size ∧ v = .int .i64 k) (fun v => h.size - (intOf v).toNat)
    case atStart => exact ⟨0, by omega, rfl⟩
    case round =>
      obtain ⟨k, hk, rfl⟩ := hrel
      by_cases hlt : k < h.size
      · by_cases hz : k = 0
        · subst hz
          go_wp2
          go_round
          case rel => exact ⟨1, by omega, by go_num⟩
          case measure => simp [intOf]; omega
        · have hz1 : ((k : Int) == 0) = false := by rw [beq_eq_false_iff_ne]; omega
          by_cases hc : bt h k = 43
          · have hc1 : (bt h k == 43) = true := by rw [hc]; rfl
            clear hc
            go_wp2
            go_round
            case rel => exact ⟨k + 1, by omega, by go_num⟩
            case measure => simp [intOf]; omega
          · have hc1 : (bt h k == 43) = false := by rw [beq_eq_false_iff_ne]; exact hc
            clear hc
            go_wp2
            go_round
            case rel => exact ⟨k + 1, by omega, by go_num⟩
            case measure => simp [intOf]; omega
      · obtain rfl : k = h.size := by omega
        go_wp2_with (first
              | (go_at_call 44; refine (specCutI _ _ _ (by assumption) (by decide)).mono ?_; rw [HC.out]; rintro e w' ⟨rfl, n1, rfl⟩)
              | (go_at_call 56; refine (digs_b _ _ (by assumption)).mono ?_; (first | rw [HH.out] | rw [HT.out]); rintro e w' ⟨rfl, rfl⟩)
              | fail)
        refine bodyPost_ret (results_row_tmp1 rfl _ _ w.heap.size _ [.int .i64 0, .int .i64 0] _ rfl (two_blk w _ _ _ _ _ n1) Tryz.underlying29 rfl sTimInfo) rfl ?_
        exact ⟨rfl, two_below _ _ _ _ _ _ _⟩

set_option maxRecDepth 20000 in
set_option maxHeartbeats 3200000 in
theorem sTim_badPart0 {c b : Bool} (s u h t : ByteArray) (w : World) (hs : s.size ≤ 2147483647) (hu : u.size ≤ s.size) (hhu : h.size ≤ u.size) (htu : t.size ≤ u.size) (HC : Hid (cutI 46 u = .tuple #[.string h, .string t, .bool c])) (HMn : Hid (Minus s u b)) (hp : bt h 0 ≠ 43) (hz : h.size = 0) (hz2 : ¬ t.size = 0) (hd : ¬ DigOk t) :
    Calls Tryz.prog 35 #[.string s] w (STim 0 0 2 w) := by
  have hu2 : u.size ≤ 4611686018427387904 := by omega
  have hh : h.size ≤ 4611686018427387904 := by omega
  have ht : t.size ≤ 4611686018427387904 := by omega
  have hbs := get_bt s
  have hbh := get_bt h
  have hbt := get_bt t
  have hc0 : (bt h 0 == 43) = false := by rw [beq_eq_false_iff_ne]; exact hp
  clear hp
  obtain ⟨e1, e2⟩ := empty_yes hz
  obtain ⟨e3, e4⟩ := empty_no hz2
  have HH : Hid (digB t = false) := Lib.hid (digB_no hd)
  have HT : Hid (digB h = digB h) := Lib.hid rfl
  clear hz2 hd
  rcases HMn.out with ⟨rfl, hm1, hm2, rfl⟩ | ⟨rfl, hm1, hm2, rfl⟩
  · have hm3 : (bt s 0 == 45) = true := by rw [hm2]; rfl
    have hm4 : (0 : Int) < (s.size : Int) := by omega
    have hm5 : (1 : Int) ≤ (s.size : Int) := by omega
    clear hm2 HMn
    go_enter Tryz.func35, Tryz.ntmps35
    go_wp2_with (first
          | (go_at_call 44; refine (specCutI _ _ _ (by assumption) (by decide)).mono ?_; rw [HC.out]; rintro e w' ⟨rfl, n1, rfl⟩)
          | fail)
    go_loop [33] (fun v => v = .int .i64 0) (fun _ => 0)
    case atStart => rfl
    case round =>
      obtain rfl := hrel
      go_wp2_with (first
            | (go_at_call 44; refine (specCutI _ _ _ (by assumption) (by decide)).mono ?_; rw [HC.out]; rintro e w' ⟨rfl, n1, rfl⟩)
            | (go_at_call 56; refine (digs_b _ _ (by assumption)).mono ?_; (first | rw [HH.out] | rw [HT.out]); rintro e w' ⟨rfl, rfl⟩)
            | fail)
      refine bodyPost_ret (results_row_tmp1 rfl _ _ w.heap.size _ [.int .i64 0, .int .i64 0] _ rfl (two_blk w _ _ _ _ _ n1) Tryz.underlying29 rfl sTimInfo) rfl ?_
      exact ⟨rfl, two_below _ _ _ _ _ _ _⟩
  · have hm3 : (bt u 0 == 45) = false := by rw [beq_eq_false_iff_ne]; exact hm2
    have hm4 : (0 : Int) < (u.size : Int) := by omega
    clear hm2 HMn
    go_enter Tryz.func35, Tryz.ntmps35
    go_wp2_with (first
          | (go_at_call 44; refine (specCutI _ _ _ (by assumption) (by decide)).mono ?_; rw [HC.out]; rintro e w' ⟨rfl, n1, rfl⟩)
          | fail)
    go_loop [33] (fun v => v = .int .i64 0) (fun _ => 0)
    case atStart => rfl
    case round =>
      obtain rfl := hrel
      go_wp2_with (first
            | (go_at_call 44; refine (specCutI _ _ _ (by assumption) (by decide)).mono ?_; rw [HC.out]; rintro e w' ⟨rfl, n1, rfl⟩)
            | (go_at_call 56; refine (digs_b _ _ (by assumption)).mono ?_; (first | rw [HH.out] | rw [HT.out]); rintro e w' ⟨rfl, rfl⟩)
            | fail)
      refine bodyPost_ret (results_row_tmp1 rfl _ _ w.heap.size _ [.int .i64 0, .int .i64 0] _ rfl (two_blk w _ _ _ _ _ n1) Tryz.underlying29 rfl sTimInfo) rfl ?_
      exact ⟨rfl, two_below _ _ _ _ _ _ _⟩

set_option maxRecDepth 20000 in
set_option maxHeartbeats 3200000 in
theorem sTim_badPart1 {c b : Bool} (s u h t : ByteArray) (w : World) (hs : s.size ≤ 2147483647) (hu : u.size ≤ s.size) (hhu : h.size ≤ u.size) (htu : t.size ≤ u.size) (HC : Hid (cutI 46 u = .tuple #[.string h, .string t, .bool c])) (HMn : Hid (Minus s u b)) (hp : bt h 0 ≠ 43) (hz : ¬ h.size = 0) (hd1 : DigOk h) (hz2 : ¬ t.size = 0) (hd : ¬ DigOk t) :
    Calls Tryz.prog 35 #[.string s] w (STim 0 0 2 w) := by
  have hu2 : u.size ≤ 4611686018427387904 := by omega
  have hh : h.size ≤ 4611686018427387904 := by omega
  have ht : t.size ≤ 4611686018427387904 := by omega
  have hbs := get_bt s
  have hbh := get_bt h
  have hbt := get_bt t
  have hc0 : (bt h 0 == 43) = false := by rw [beq_eq_false_iff_ne]; exact hp
  clear hp
  obtain ⟨e1, e2⟩ := empty_no hz
  obtain ⟨e3, e4⟩ := empty_no hz2
  have HH : Hid (digB h = true) := Lib.hid (digB_yes hd1)
  have HT : Hid (digB t = false) := Lib.hid (digB_no hd)
  clear hz hz2 hd hd1
  rcases HMn.out with ⟨rfl, hm1, hm2, rfl⟩ | ⟨rfl, hm1, hm2, rfl⟩
  · have hm3 : (bt s 0 == 45) = true := by rw [hm2]; rfl
    have hm4 : (0 : Int) < (s.size : Int) := by omega
    have hm5 : (1 : Int) ≤ (s.size : Int) := by omega
    clear hm2 HMn
    go_enter Tryz.func35, Tryz.ntmps35
    go_wp2_with (first
          | (go_at_call 44; refine (specCutI _ _ _ (by assumption) (by decide)).mono ?_; rw [HC.out]; rintro e w' ⟨rfl, n1, rfl⟩)
          | fail)
    go_loop [33] (fun v => ∃ k : Nat, k ≤ h.size ∧ v = .int .i64 k) (fun v => h.size - (intOf v).toNat)
    case atStart => exact ⟨0, by omega, rfl⟩
    case round =>
      obtain ⟨k, hk, rfl⟩ := hrel
      by_cases hlt : k < h.size
      · by_cases hz : k = 0
        · subst hz
          go_wp2
          go_round
          case rel => exact ⟨1, by omega, by go_num⟩
          case measure => simp [intOf]; omega
        · have hz1 : ((k : Int) == 0) = false := by rw [beq_eq_false_iff_ne]; omega
          by_cases hc : bt h k = 43
          · have hc1 : (bt h k == 43) = true := by rw [hc]; rfl
            clear hc
            go_wp2
            go_round
            case rel => exact ⟨k + 1, by omega, by go_num⟩
            case measure => simp [intOf]; omega
          · have hc1 : (bt h k == 43) = false := by rw [beq_eq_false_iff_ne]; exact hc
            clear hc
            go_wp2
            go_round
            case rel => exact ⟨k + 1, by omega, by go_num⟩
            case measure => simp [intOf]; omega
      · obtain rfl : k = h.size := by omega
        go_wp2_with (first
              | (go_at_call 44; refine (specCutI _ _ _ (by assumption) (by decide)).mono ?_; rw [HC.out]; rintro e w' ⟨rfl, n1, rfl⟩)
              | (go_at_call 56; refine (digs_b _ _ (by assumption)).mono ?_; (first | rw [HH.out] | rw [HT.out]); rintro e w' ⟨rfl, rfl⟩)
              | fail)
        refine bodyPost_ret (results_row_tmp1 rfl _ _ w.heap.size _ [.int .i64 0, .int .i64 0] _ rfl (two_blk w _ _ _ _ _ n1) Tryz.underlying29 rfl sTimInfo) rfl ?_
        exact ⟨rfl, two_below _ _ _ _ _ _ _⟩
  · have hm3 : (bt u 0 == 45) = false := by rw [beq_eq_false_iff_ne]; exact hm2
    have hm4 : (0 : Int) < (u.size : Int) := by omega
    clear hm2 HMn
    go_enter Tryz.func35, Tryz.ntmps35
    go_wp2_with (first
          | (go_at_call 44; refine (specCutI _ _ _ (by assumption) (by decide)).mono ?_; rw [HC.out]; rintro e w' ⟨rfl, n1, rfl⟩)
          | fail)
    go_loop [33] (fun v => ∃ k : Nat, k ≤ h.size ∧ v = .int .i64 k) (fun v => h.size - (intOf v).toNat)
    case atStart => exact ⟨0, by omega, rfl⟩
    case round =>
      obtain ⟨k, hk, rfl⟩ := hrel
      by_cases hlt : k < h.size
      · by_cases hz : k = 0
        · subst hz
          go_wp2
          go_round
          case rel => exact ⟨1, by omega, by go_num⟩
          case measure => simp [intOf]; omega
        · have hz1 : ((k : Int) == 0) = false := by rw [beq_eq_false_iff_ne]; omega
          by_cases hc : bt h k = 43
          · have hc1 : (bt h k == 43) = true := by rw [hc]; rfl
            clear hc
            go_wp2
            go_round
            case rel => exact ⟨k + 1, by omega, by go_num⟩
            case measure => simp [intOf]; omega
          · have hc1 : (bt h k == 43) = false := by rw [beq_eq_false_iff_ne]; exact hc
            clear hc
            go_wp2
            go_round
            case rel => exact ⟨k + 1, by omega, by go_num⟩
            case measure => simp [intOf]; omega
      · obtain rfl : k = h.size := by omega
        go_wp2_with (first
              | (go_at_call 44; refine (specCutI _ _ _ (by assumption) (by decide)).mono ?_; rw [HC.out]; rintro e w' ⟨rfl, n1, rfl⟩)
              | (go_at_call 56; refine (digs_b _ _ (by assumption)).mono ?_; (first | rw [HH.out] | rw [HT.out]); rintro e w' ⟨rfl, rfl⟩)
              | fail)
        refine bodyPost_ret (results_row_tmp1 rfl _ _ w.heap.size _ [.int .i64 0, .int .i64 0] _ rfl (two_blk w _ _ _ _ _ n1) Tryz.underlying29 rfl sTimInfo) rfl ?_
        exact ⟨rfl, two_below _ _ _ _ _ _ _⟩
end Go.Proofs.YtepeehjajhehfaaGreatDoor
namespace Go.Proofs.YtepeehjajhehfaaGreatDoor
open Go.RowKit Go.PlainAid
set_option linter.unusedVariables false

set_option maxRecDepth 20000 in
set_option maxHeartbeats 800000 in
theorem sTim_empty (s : ByteArray) (w : World) (hs : s.size = 0) (HC : Hid (cutI 46 s = .tuple #[.string s, .string ⟨#[]⟩, .bool false])) :
    Calls Tryz.prog 35 #[.string s] w (STim 0 0 0 w) := by
  have hu2 : s.size ≤ 4611686018427387904 := by omega
  obtain ⟨e1, e2⟩ := empty_yes hs
  go_enter Tryz.func35, Tryz.ntmps35
  go_wp2_with (first
      | (go_at_call 44; refine (specCutI _ _ _ (by assumption) (by decide)).mono ?_; rw [HC.out]; rintro e w' ⟨rfl, n1, rfl⟩)
      | fail)
  go_loop [33] (fun v => v = .int .i64 0) (fun _ => 0)
  case atStart => rfl
  case round =>
    obtain rfl := hrel
    go_wp2_with fail
    refine bodyPost_ret (results_row_tmp1 rfl _ _ w.heap.size _ [.int .i64 0, .int .i64 0] _ rfl (two_blk w _ _ _ _ _ n1) Tryz.underlying29 rfl sTimInfo) rfl ?_
    exact ⟨rfl, two_below _ _ _ _ _ _ _⟩

set_option maxRecDepth 20000 in
set_option maxHeartbeats 3200000 in
theorem sTim_none {c b : Bool} (s u h t : ByteArray) (w : World) (hs : s.size ≤ 2147483647) (hu : u.size ≤ s.size) (hhu : h.size ≤ u.size) (htu : t.size ≤ u.size) (HC : Hid (cutI 46 u = .tuple #[.string h, .string t, .bool c])) (HMn : Hid (Minus s u b)) (hp : bt h 0 ≠ 43) (hz : h.size = 0) (hz2 : t.size = 0) (hc : c = false) :
    Calls Tryz.prog 35 #[.string s] w (STim 0 0 0 w) := by
  have hu2 : u.size ≤ 4611686018427387904 := by omega
  have hh : h.size ≤ 4611686018427387904 := by omega
  have ht : t.size ≤ 4611686018427387904 := by omega
  have hbs := get_bt s
  have hbh := get_bt h
  have hbt := get_bt t
  have hc0 : (bt h 0 == 43) = false := by rw [beq_eq_false_iff_ne]; exact hp
  clear hp
  obtain ⟨e1, e2⟩ := empty_yes hz
  obtain ⟨e3, e4⟩ := empty_yes hz2
  clear hz2
  subst hc
  rcases HMn.out with ⟨rfl, hm1, hm2, rfl⟩ | ⟨rfl, hm1, hm2, rfl⟩
  · have hm3 : (bt s 0 == 45) = true := by rw [hm2]; rfl
    have hm4 : (0 : Int) < (s.size : Int) := by omega
    have hm5 : (1 : Int) ≤ (s.size : Int) := by omega
    clear hm2 HMn
    go_enter Tryz.func35, Tryz.ntmps35
    go_wp2_with (first
          | (go_at_call 44; refine (specCutI _ _ _ (by assumption) (by decide)).mono ?_; rw [HC.out]; rintro e w' ⟨rfl, n1, rfl⟩)
          | fail)
    go_loop [33] (fun v => v = .int .i64 0) (fun _ => 0)
    case atStart => rfl
    case round =>
      obtain rfl := hrel
      go_wp2_with (first
            | (go_at_call 44; refine (specCutI _ _ _ (by assumption) (by decide)).mono ?_; rw [HC.out]; rintro e w' ⟨rfl, n1, rfl⟩)
            | fail)
      refine bodyPost_ret (results_row_tmp1 rfl _ _ w.heap.size _ [.int .i64 0, .int .i64 0] _ rfl (two_blk w _ _ _ _ _ n1) Tryz.underlying29 rfl sTimInfo) rfl ?_
      exact ⟨rfl, two_below _ _ _ _ _ _ _⟩
  · have hm3 : (bt u 0 == 45) = false := by rw [beq_eq_false_iff_ne]; exact hm2
    have hm4 : (0 : Int) < (u.size : Int) := by omega
    clear hm2 HMn
    go_enter Tryz.func35, Tryz.ntmps35
    go_wp2_with (first
          | (go_at_call 44; refine (specCutI _ _ _ (by assumption) (by decide)).mono ?_; rw [HC.out]; rintro e w' ⟨rfl, n1, rfl⟩)
          | fail)
    go_loop [33] (fun v => v = .int .i64 0) (fun _ => 0)
    case atStart => rfl
    case round =>
      obtain rfl := hrel
      go_wp2_with (first
            | (go_at_call 44; refine (specCutI _ _ _ (by assumption) (by decide)).mono ?_; rw [HC.out]; rintro e w' ⟨rfl, n1, rfl⟩)
            | fail)
      refine bodyPost_ret (results_row_tmp1 rfl _ _ w.heap.size _ [.int .i64 0, .int .i64 0] _ rfl (two_blk w _ _ _ _ _ n1) Tryz.underlying29 rfl sTimInfo) rfl ?_
      exact ⟨rfl, two_below _ _ _ _ _ _ _⟩

set_option maxRecDepth 20000 in
set_option maxHeartbeats 3200000 in
theorem sTim_noWhole0 {c b : Bool} (s u h t : ByteArray) (w : World) (hs : s.size ≤ 2147483647) (hu : u.size ≤ s.size) (hhu : h.size ≤ u.size) (htu : t.size ≤ u.size) (HC : Hid (cutI 46 u = .tuple #[.string h, .string t, .bool c])) (HMn : Hid (Minus s u b)) (hp : bt h 0 ≠ 43) (hz : h.size = 0) (hc : c = true) (hz2 : t.size = 0) :
    Calls Tryz.prog 35 #[.string s] w (STim 0 0 0 w) := by
  have hu2 : u.size ≤ 4611686018427387904 := by omega
  have hh : h.size ≤ 4611686018427387904 := by omega
  have ht : t.size ≤ 4611686018427387904 := by omega
  have hbs := get_bt s
  have hbh := get_bt h
  have hbt := get_bt t
  have hc0 : (bt h 0 == 43) = false := by rw [beq_eq_false_iff_ne]; exact hp
  clear hp
  obtain ⟨e1, e2⟩ := empty_yes hz
  have HDC : Hid (¬ DecOk h) := Lib.hid (fun hx => by have := hx.1; omega)
  have HH : Hid (digB h = digB h) := Lib.hid rfl
  obtain ⟨e3, e4⟩ := empty_yes hz2
  have HT : Hid (digB h = digB h) := Lib.hid rfl
  clear hz2
  subst hc
  rcases HMn.out with ⟨rfl, hm1, hm2, rfl⟩ | ⟨rfl, hm1, hm2, rfl⟩
  · have hm3 : (bt s 0 == 45) = true := by rw [hm2]; rfl
    have hm4 : (0 : Int) < (s.size : Int) := by omega
    have hm5 : (1 : Int) ≤ (s.size : Int) := by omega
    clear hm2 HMn
    go_enter Tryz.func35, Tryz.ntmps35
    go_wp2_with (first
          | (go_at_call 44; refine (specCutI _ _ _ (by assumption) (by decide)).mono ?_; rw [HC.out]; rintro e w' ⟨rfl, n1, rfl⟩)
          | fail)
    go_loop [33] (fun v => v = .int .i64 0) (fun _ => 0)
    case atStart => rfl
    case round =>
      obtain rfl := hrel
      go_wp2_with (first
            | (go_at_call 44; refine (specCutI _ _ _ (by assumption) (by decide)).mono ?_; rw [HC.out]; rintro e w' ⟨rfl, n1, rfl⟩)
            | (go_at_call 56; refine (digs_b _ _ (by assumption)).mono ?_; (first | rw [HH.out] | rw [HT.out]); rintro e w' ⟨rfl, rfl⟩)
            | (go_at_call 34; refine (dec_no h _ hh HDC.out).mono ?_; rintro e w' ⟨rfl, rfl⟩)
            | fail)
      refine bodyPost_ret (results_row_tmp1 rfl _ _ w.heap.size _ [.int .i64 0, .int .i64 0] _ rfl (two_blk w _ _ _ _ _ n1) Tryz.underlying29 rfl sTimInfo) rfl ?_
      exact ⟨rfl, two_below _ _ _ _ _ _ _⟩
  · have hm3 : (bt u 0 == 45) = false := by rw [beq_eq_false_iff_ne]; exact hm2
    have hm4 : (0 : Int) < (u.size : Int) := by omega
    clear hm2 HMn
    go_enter Tryz.func35, Tryz.ntmps35
    go_wp2_with (first
          | (go_at_call 44; refine (specCutI _ _ _ (by assumption) (by decide)).mono ?_; rw [HC.out]; rintro e w' ⟨rfl, n1, rfl⟩)
          | fail)
    go_loop [33] (fun v => v = .int .i64 0) (fun _ => 0)
    case atStart => rfl
    case round =>
      obtain rfl := hrel
      go_wp2_with (first
            | (go_at_call 44; refine (specCutI _ _ _ (by assumption) (by decide)).mono ?_; rw [HC.out]; rintro e w' ⟨rfl, n1, rfl⟩)
            | (go_at_call 56; refine (digs_b _ _ (by assumption)).mono ?_; (first | rw [HH.out] | rw [HT.out]); rintro e w' ⟨rfl, rfl⟩)
            | (go_at_call 34; refine (dec_no h _ hh HDC.out).mono ?_; rintro e w' ⟨rfl, rfl⟩)
            | fail)
      refine bodyPost_ret (results_row_tmp1 rfl _ _ w.heap.size _ [.int .i64 0, .int .i64 0] _ rfl (two_blk w _ _ _ _ _ n1) Tryz.underlying29 rfl sTimInfo) rfl ?_
      exact ⟨rfl, two_below _ _ _ _ _ _ _⟩

set_option maxRecDepth 20000 in
set_option maxHeartbeats 3200000 in
theorem sTim_great0 {c b : Bool} (s u h t : ByteArray) (w : World) (hs : s.size ≤ 2147483647) (hu : u.size ≤ s.size) (hhu : h.size ≤ u.size) (htu : t.size ≤ u.size) (HC : Hid (cutI 46 u = .tuple #[.string h, .string t, .bool c])) (HMn : Hid (Minus s u b)) (hp : bt h 0 ≠ 43) (hd : DigOk h) (hdc : ¬ DecOk h) (hz2 : t.size = 0) :
    Calls Tryz.prog 35 #[.string s] w (STim 0 0 0 w) := by
  have hu2 : u.size ≤ 4611686018427387904 := by omega
  have hh : h.size ≤ 4611686018427387904 := by omega
  have ht : t.size ≤ 4611686018427387904 := by omega
  have hbs := get_bt s
  have hbh := get_bt h
  have hbt := get_bt t
  have hc0 : (bt h 0 == 43) = false := by rw [beq_eq_false_iff_ne]; exact hp
  clear hp
  obtain ⟨e1, e2⟩ := empty_no (Nat.ne_of_gt hd.1)
  have HDC := Lib.hid hdc
  have HH : Hid (digB h = true) := Lib.hid (digB_yes hd)
  obtain ⟨e3, e4⟩ := empty_yes hz2
  have HT : Hid (digB h = digB h) := Lib.hid rfl
  clear hz2
  clear hd hdc
  rcases HMn.out with ⟨rfl, hm1, hm2, rfl⟩ | ⟨rfl, hm1, hm2, rfl⟩
  · have hm3 : (bt s 0 == 45) = true := by rw [hm2]; rfl
    have hm4 : (0 : Int) < (s.size : Int) := by omega
    have hm5 : (1 : Int) ≤ (s.size : Int) := by omega
    clear hm2 HMn
    go_enter Tryz.func35, Tryz.ntmps35
    go_wp2_with (first
          | (go_at_call 44; refine (specCutI _ _ _ (by assumption) (by decide)).mono ?_; rw [HC.out]; rintro e w' ⟨rfl, n1, rfl⟩)
          | fail)
    go_loop [33] (fun v => ∃ k : Nat, k ≤ h.size ∧ v = .int .i64 k) (fun v => h.size - (intOf v).toNat)
    case atStart => exact ⟨0, by omega, rfl⟩
    case round =>
      obtain ⟨k, hk, rfl⟩ := hrel
      by_cases hlt : k < h.size
      · by_cases hz : k = 0
        · subst hz
          go_wp2
          go_round
          case rel => exact ⟨1, by omega, by go_num⟩
          case measure => simp [intOf]; omega
        · have hz1 : ((k : Int) == 0) = false := by rw [beq_eq_false_iff_ne]; omega
          by_cases hc : bt h k = 43
          · have hc1 : (bt h k == 43) = true := by rw [hc]; rfl
            clear hc
            go_wp2
            go_round
            case rel => exact ⟨k + 1, by omega, by go_num⟩
            case measure => simp [intOf]; omega
          · have hc1 : (bt h k == 43) = false := by rw [beq_eq_false_iff_ne]; exact hc
            clear hc
            go_wp2
            go_round
            case rel => exact ⟨k + 1, by omega, by go_num⟩
            case measure => simp [intOf]; omega
      · obtain rfl : k = h.size := by omega
        go_wp2_with (first
              | (go_at_call 44; refine (specCutI _ _ _ (by assumption) (by decide)).mono ?_; rw [HC.out]; rintro e w' ⟨rfl, n1, rfl⟩)
              | (go_at_call 56; refine (digs_b _ _ (by assumption)).mono ?_; (first | rw [HH.out] | rw [HT.out]); rintro e w' ⟨rfl, rfl⟩)
              | (go_at_call 34; refine (dec_no h _ hh HDC.out).mono ?_; rintro e w' ⟨rfl, rfl⟩)
              | fail)
        refine bodyPost_ret (results_row_tmp1 rfl _ _ w.heap.size _ [.int .i64 0, .int .i64 0] _ rfl (two_blk w _ _ _ _ _ n1) Tryz.underlying29 rfl sTimInfo) rfl ?_
        exact ⟨rfl, two_below _ _ _ _ _ _ _⟩
  · have hm3 : (bt u 0 == 45) = false := by rw [beq_eq_false_iff_ne]; exact hm2
    have hm4 : (0 : Int) < (u.size : Int) := by omega
    clear hm2 HMn
    go_enter Tryz.func35, Tryz.ntmps35
    go_wp2_with (first
          | (go_at_call 44; refine (specCutI _ _ _ (by assumption) (by decide)).mono ?_; rw [HC.out]; rintro e w' ⟨rfl, n1, rfl⟩)
          | fail)
    go_loop [33] (fun v => ∃ k : Nat, k ≤ h.size ∧ v = .int .i64 k) (fun v => h.size - (intOf v).toNat)
    case atStart => exact ⟨0, by omega, rfl⟩
    case round =>
      obtain ⟨k, hk, rfl⟩ := hrel
      by_cases hlt : k < h.size
      · by_cases hz : k = 0
        · subst hz
          go_wp2
          go_round
          case rel => exact ⟨1, by omega, by go_num⟩
          case measure => simp [intOf]; omega
        · have hz1 : ((k : Int) == 0) = false := by rw [beq_eq_false_iff_ne]; omega
          by_cases hc : bt h k = 43
          · have hc1 : (bt h k == 43) = true := by rw [hc]; rfl
            clear hc
            go_wp2
            go_round
            case rel => exact ⟨k + 1, by omega, by go_num⟩
            case measure => simp [intOf]; omega
          · have hc1 : (bt h k == 43) = false := by rw [beq_eq_false_iff_ne]; exact hc
            clear hc
            go_wp2
            go_round
            case rel => exact ⟨k + 1, by omega, by go_num⟩
            case measure => simp [intOf]; omega
      · obtain rfl : k = h.size := by omega
        go_wp2_with (first
              | (go_at_call 44; refine (specCutI _ _ _ (by assumption) (by decide)).mono ?_; rw [HC.out]; rintro e w' ⟨rfl, n1, rfl⟩)
              | (go_at_call 56; refine (digs_b _ _ (by assumption)).mono ?_; (first | rw [HH.out] | rw [HT.out]); rintro e w' ⟨rfl, rfl⟩)
              | (go_at_call 34; refine (dec_no h _ hh HDC.out).mono ?_; rintro e w' ⟨rfl, rfl⟩)
              | fail)
        refine bodyPost_ret (results_row_tmp1 rfl _ _ w.heap.size _ [.int .i64 0, .int .i64 0] _ rfl (two_blk w _ _ _ _ _ n1) Tryz.underlying29 rfl sTimInfo) rfl ?_
        exact ⟨rfl, two_below _ _ _ _ _ _ _⟩

set_option maxRecDepth 20000 in
set_option maxHeartbeats 3200000 in
theorem sTim_long0 {c b : Bool} (s u h t : ByteArray) (w : World) (hs : s.size ≤ 2147483647) (hu : u.size ≤ s.size) (hhu : h.size ≤ u.size) (htu : t.size ≤ u.size) (HC : Hid (cutI 46 u = .tuple #[.string h, .string t, .bool c])) (HMn : Hid (Minus s u b)) (hp : bt h 0 ≠ 43) (hdc : DecOk h) (h18 : 18 < h.size) (hz2 : t.size = 0) :
    Calls Tryz.prog 35 #[.string s] w (STim 0 0 0 w) := by
  have hu2 : u.size ≤ 4611686018427387904 := by omega
  have hh : h.size ≤ 4611686018427387904 := by omega
  have ht : t.size ≤ 4611686018427387904 := by omega
  have hbs := get_bt s
  have hbh := get_bt h
  have hbt := get_bt t
  have hc0 : (bt h 0 == 43) = false := by rw [beq_eq_false_iff_ne]; exact hp
  clear hp
  obtain ⟨e1, e2⟩ := empty_no (Nat.ne_of_gt hdc.1)
  have HDC := Lib.hid hdc
  obtain ⟨W, hW⟩ : ∃ W, vl 0 h.data.toList = W := ⟨_, rfl⟩
  have HVL := Lib.hid hW
  have HH : Hid (digB h = true) := Lib.hid (digB_yes ⟨hdc.1, hdc.2.2.1⟩)
  obtain ⟨e3, e4⟩ := empty_yes hz2
  have HT : Hid (digB h = digB h) := Lib.hid rfl
  clear hz2
  clear hdc hW
  rcases HMn.out with ⟨rfl, hm1, hm2, rfl⟩ | ⟨rfl, hm1, hm2, rfl⟩
  · have hm3 : (bt s 0 == 45) = true := by rw [hm2]; rfl
    have hm4 : (0 : Int) < (s.size : Int) := by omega
    have hm5 : (1 : Int) ≤ (s.size : Int) := by omega
    clear hm2 HMn
    go_enter Tryz.func35, Tryz.ntmps35
    go_wp2_with (first
          | (go_at_call 44; refine (specCutI _ _ _ (by assumption) (by decide)).mono ?_; rw [HC.out]; rintro e w' ⟨rfl, n1, rfl⟩)
          | fail)
    go_loop [33] (fun v => ∃ k : Nat, k ≤ h.size ∧ v = .int .i64 k) (fun v => h.size - (intOf v).toNat)
    case atStart => exact ⟨0, by omega, rfl⟩
    case round =>
      obtain ⟨k, hk, rfl⟩ := hrel
      by_cases hlt : k < h.size
      · by_cases hz : k = 0
        · subst hz
          go_wp2
          go_round
          case rel => exact ⟨1, by omega, by go_num⟩
          case measure => simp [intOf]; omega
        · have hz1 : ((k : Int) == 0) = false := by rw [beq_eq_false_iff_ne]; omega
          by_cases hc : bt h k = 43
          · have hc1 : (bt h k == 43) = true := by rw [hc]; rfl
            clear hc
            go_wp2
            go_round
            case rel => exact ⟨k + 1, by omega, by go_num⟩
            case measure => simp [intOf]; omega
          · have hc1 : (bt h k == 43) = false := by rw [beq_eq_false_iff_ne]; exact hc
            clear hc
            go_wp2
            go_round
            case rel => exact ⟨k + 1, by omega, by go_num⟩
            case measure => simp [intOf]; omega
      · obtain rfl : k = h.size := by omega
        go_wp2_with (first
              | (go_at_call 44; refine (specCutI _ _ _ (by assumption) (by decide)).mono ?_; rw [HC.out]; rintro e w' ⟨rfl, n1, rfl⟩)
              | (go_at_call 56; refine (digs_b _ _ (by assumption)).mono ?_; (first | rw [HH.out] | rw [HT.out]); rintro e w' ⟨rfl, rfl⟩)
              | (go_at_call 34; refine (dec_yes h _ hh HDC.out).mono ?_; rw [HVL.out]; rintro e w' ⟨rfl, rfl⟩)
              | fail)
        refine bodyPost_ret (results_row_tmp1 rfl _ _ w.heap.size _ [.int .i64 0, .int .i64 0] _ rfl (two_blk w _ _ _ _ _ n1) Tryz.underlying29 rfl sTimInfo) rfl ?_
        exact ⟨rfl, two_below _ _ _ _ _ _ _⟩
  · have hm3 : (bt u 0 == 45) = false := by rw [beq_eq_false_iff_ne]; exact hm2
    have hm4 : (0 : Int) < (u.size : Int) := by omega
    clear hm2 HMn
    go_enter Tryz.func35, Tryz.ntmps35
    go_wp2_with (first
          | (go_at_call 44; refine (specCutI _ _ _ (by assumption) (by decide)).mono ?_; rw [HC.out]; rintro e w' ⟨rfl, n1, rfl⟩)
          | fail)
    go_loop [33] (fun v => ∃ k : Nat, k ≤ h.size ∧ v = .int .i64 k) (fun v => h.size - (intOf v).toNat)
    case atStart => exact ⟨0, by omega, rfl⟩
    case round =>
      obtain ⟨k, hk, rfl⟩ := hrel
      by_cases hlt : k < h.size
      · by_cases hz : k = 0
        · subst hz
          go_wp2
          go_round
          case rel => exact ⟨1, by omega, by go_num⟩
          case measure => simp [intOf]; omega
        · have hz1 : ((k : Int) == 0) = false := by rw [beq_eq_false_iff_ne]; omega
          by_cases hc : bt h k = 43
          · have hc1 : (bt h k == 43) = true := by rw [hc]; rfl
            clear hc
            go_wp2
            go_round
            case rel => exact ⟨k + 1, by omega, by go_num⟩
            case measure => simp [intOf]; omega
          · have hc1 : (bt h k == 43) = false := by rw [beq_eq_false_iff_ne]; exact hc
            clear hc
            go_wp2
            go_round
            case rel => exact ⟨k + 1, by omega, by go_num⟩
            case measure => simp [intOf]; omega
      · obtain rfl : k = h.size := by omega
        go_wp2_with (first
              | (go_at_call 44; refine (specCutI _ _ _ (by assumption) (by decide)).mono ?_; rw [HC.out]; rintro e w' ⟨rfl, n1, rfl⟩)
              | (go_at_call 56; refine (digs_b _ _ (by assumption)).mono ?_; (first | rw [HH.out] | rw [HT.out]); rintro e w' ⟨rfl, rfl⟩)
              | (go_at_call 34; refine (dec_yes h _ hh HDC.out).mono ?_; rw [HVL.out]; rintro e w' ⟨rfl, rfl⟩)
              | fail)
        refine bodyPost_ret (results_row_tmp1 rfl _ _ w.heap.size _ [.int .i64 0, .int .i64 0] _ rfl (two_blk w _ _ _ _ _ n1) Tryz.underlying29 rfl sTimInfo) rfl ?_
        exact ⟨rfl, two_below _ _ _ _ _ _ _⟩

set_option maxRecDepth 20000 in
set_option maxHeartbeats 3200000 in
theorem sTim_noWhole1 {c b : Bool} (s u h t : ByteArray) (w : World) (hs : s.size ≤ 2147483647) (hu : u.size ≤ s.size) (hhu : h.size ≤ u.size) (htu : t.size ≤ u.size) (HC : Hid (cutI 46 u = .tuple #[.string h, .string t, .bool c])) (HMn : Hid (Minus s u b)) (hp : bt h 0 ≠ 43) (hz : h.size = 0) (hc : c = true) (hz2 : ¬ t.size = 0) (hd2 : DigOk t) :
    Calls Tryz.prog 35 #[.string s] w (STim 0 0 0 w) := by
  have hu2 : u.size ≤ 4611686018427387904 := by omega
  have hh : h.size ≤ 4611686018427387904 := by omega
  have ht : t.size ≤ 4611686018427387904 := by omega
  have hbs := get_bt s
  have hbh := get_bt h
  have hbt := get_bt t
  have hc0 : (bt h 0 == 43) = false := by rw [beq_eq_false_iff_ne]; exact hp
  clear hp
  obtain ⟨e1, e2⟩ := empty_yes hz
  have HDC : Hid (¬ DecOk h) := Lib.hid (fun hx => by have := hx.1; omega)
  have HH : Hid (digB h = digB h) := Lib.hid rfl
  obtain ⟨e3, e4⟩ := empty_no hz2
  have HT : Hid (digB t = true) := Lib.hid (digB_yes hd2)
  clear hz2 hd2
  subst hc
  rcases HMn.out with ⟨rfl, hm1, hm2, rfl⟩ | ⟨rfl, hm1, hm2, rfl⟩
  · have hm3 : (bt s 0 == 45) = true := by rw [hm2]; rfl
    have hm4 : (0 : Int) < (s.size : Int) := by omega
    have hm5 : (1 : Int) ≤ (s.size : Int) := by omega
    clear hm2 HMn
    go_enter Tryz.func35, Tryz.ntmps35
    go_wp2_with (first
          | (go_at_call 44; refine (specCutI _ _ _ (by assumption) (by decide)).mono ?_; rw [HC.out]; rintro e w' ⟨rfl, n1, rfl⟩)
          | fail)
    go_loop [33] (fun v => v = .int .i64 0) (fun _ => 0)
    case atStart => rfl
    case round =>
      obtain rfl := hrel
      go_wp2_with (first
            | (go_at_call 44; refine (specCutI _ _ _ (by assumption) (by decide)).mono ?_; rw [HC.out]; rintro e w' ⟨rfl, n1, rfl⟩)
            | (go_at_call 56; refine (digs_b _ _ (by assumption)).mono ?_; (first | rw [HH.out] | rw [HT.out]); rintro e w' ⟨rfl, rfl⟩)
            | (go_at_call 34; refine (dec_no h _ hh HDC.out).mono ?_; rintro e w' ⟨rfl, rfl⟩)
            | fail)
      refine bodyPost_ret (results_row_tmp1 rfl _ _ w.heap.size _ [.int .i64 0, .int .i64 0] _ rfl (two_blk w _ _ _ _ _ n1) Tryz.underlying29 rfl sTimInfo) rfl ?_
      exact ⟨rfl, two_below _ _ _ _ _ _ _⟩
  · have hm3 : (bt u 0 == 45) = false := by rw [beq_eq_false_iff_ne]; exact hm2
    have hm4 : (0 : Int) < (u.size : Int) := by omega
    clear hm2 HMn
    go_enter Tryz.func35, Tryz.ntmps35
    go_wp2_with (first
          | (go_at_call 44; refine (specCutI _ _ _ (by assumption) (by decide)).mono ?_; rw [HC.out]; rintro e w' ⟨rfl, n1, rfl⟩)
          | fail)
    go_loop [33] (fun v => v = .int .i64 0) (fun _ => 0)
    case atStart => rfl
    case round =>
      obtain rfl := hrel
      go_wp2_with (first
            | (go_at_call 44; refine (specCutI _ _ _ (by assumption) (by decide)).mono ?_; rw [HC.out]; rintro e w' ⟨rfl, n1, rfl⟩)
            | (go_at_call 56; refine (digs_b _ _ (by assumption)).mono ?_; (first | rw [HH.out] | rw [HT.out]); rintro e w' ⟨rfl, rfl⟩)
            | (go_at_call 34; refine (dec_no h _ hh HDC.out).mono ?_; rintro e w' ⟨rfl, rfl⟩)
            | fail)
      refine bodyPost_ret (results_row_tmp1 rfl _ _ w.heap.size _ [.int .i64 0, .int .i64 0] _ rfl (two_blk w _ _ _ _ _ n1) Tryz.underlying29 rfl sTimInfo) rfl ?_
      exact ⟨rfl, two_below _ _ _ _ _ _ _⟩

set_option maxRecDepth 20000 in
set_option maxHeartbeats 3200000 in
theorem sTim_great1 {c b : Bool} (s u h t : ByteArray) (w : World) (hs : s.size ≤ 2147483647) (hu : u.size ≤ s.size) (hhu : h.size ≤ u.size) (htu : t.size ≤ u.size) (HC : Hid (cutI 46 u = .tuple #[.string h, .string t, .bool c])) (HMn : Hid (Minus s u b)) (hp : bt h 0 ≠ 43) (hd : DigOk h) (hdc : ¬ DecOk h) (hz2 : ¬ t.size = 0) (hd2 : DigOk t) :
    Calls Tryz.prog 35 #[.string s] w (STim 0 0 0 w) := by
  have hu2 : u.size ≤ 4611686018427387904 := by omega
  have hh : h.size ≤ 4611686018427387904 := by omega
  have ht : t.size ≤ 4611686018427387904 := by omega
  have hbs := get_bt s
  have hbh := get_bt h
  have hbt := get_bt t
  have hc0 : (bt h 0 == 43) = false := by rw [beq_eq_false_iff_ne]; exact hp
  clear hp
  obtain ⟨e1, e2⟩ := empty_no (Nat.ne_of_gt hd.1)
  have HDC := Lib.hid hdc
  have HH : Hid (digB h = true) := Lib.hid (digB_yes hd)
  obtain ⟨e3, e4⟩ := empty_no hz2
  have HT : Hid (digB t = true) := Lib.hid (digB_yes hd2)
  clear hz2 hd2
  clear hd hdc
  rcases HMn.out with ⟨rfl, hm1, hm2, rfl⟩ | ⟨rfl, hm1, hm2, rfl⟩
  · have hm3 : (bt s 0 == 45) = true := by rw [hm2]; rfl
    have hm4 : (0 : Int) < (s.size : Int) := by omega
    have hm5 : (1 : Int) ≤ (s.size : Int) := by omega
    clear hm2 HMn
    go_enter Tryz.func35, Tryz.ntmps35
    go_wp2_with (first
          | (go_at_call 44; refine (specCutI _ _ _ (by assumption) (by decide)).mono ?_; rw [HC.out]; rintro e w' ⟨rfl, n1, rfl⟩)
          | fail)
    go_loop [33] (fun v => ∃ k : Nat, k ≤ h.size ∧ v = .int .i64 k) (fun v => h.size - (intOf v).toNat)
    case atStart => exact ⟨0, by omega, rfl⟩
    case round =>
      obtain ⟨k, hk, rfl⟩ := hrel
      by_cases hlt : k < h.size
      · by_cases hz : k = 0
        · subst hz
          go_wp2
          go_round
          case rel => exact ⟨1, by omega, by go_num⟩
          case measure => simp [intOf]; omega
        · have hz1 : ((k : Int) == 0) = false := by rw [beq_eq_false_iff_ne]; omega
          by_cases hc : bt h k = 43
          · have hc1 : (bt h k == 43) = true := by rw [hc]; rfl
            clear hc
            go_wp2
            go_round
            case rel => exact ⟨k + 1, by omega, by go_num⟩
            case measure => simp [intOf]; omega
          · have hc1 : (bt h k == 43) = false := by rw [beq_eq_false_iff_ne]; exact hc
            clear hc
            go_wp2
            go_round
            case rel => exact ⟨k + 1, by omega, by go_num⟩
            case measure => simp [intOf]; omega
      · obtain rfl : k = h.size := by omega
        go_wp2_with (first
              | (go_at_call 44; refine (specCutI _ _ _ (by assumption) (by decide)).mono ?_; rw [HC.out]; rintro e w' ⟨rfl, n1, rfl⟩)
              | (go_at_call 56; refine (digs_b _ _ (by assumption)).mono ?_; (first | rw [HH.out] | rw [HT.out]); rintro e w' ⟨rfl, rfl⟩)
              | (go_at_call 34; refine (dec_no h _ hh HDC.out).mono ?_; rintro e w' ⟨rfl, rfl⟩)
              | fail)
        refine bodyPost_ret (results_row_tmp1 rfl _ _ w.heap.size _ [.int .i64 0, .int .i64 0] _ rfl (two_blk w _ _ _ _ _ n1) Tryz.underlying29 rfl sTimInfo) rfl ?_
        exact ⟨rfl, two_below _ _ _ _ _ _ _⟩
  · have hm3 : (bt u 0 == 45) = false := by rw [beq_eq_false_iff_ne]; exact hm2
    have hm4 : (0 : Int) < (u.size : Int) := by omega
    clear hm2 HMn
    go_enter Tryz.func35, Tryz.ntmps35
    go_wp2_with (first
          | (go_at_call 44; refine (specCutI _ _ _ (by assumption) (by decide)).mono ?_; rw [HC.out]; rintro e w' ⟨rfl, n1, rfl⟩)
          | fail)
    go_loop [33] (fun v => ∃ k : Nat, k ≤ h.size ∧ v = .int .i64 k) (fun v => h.size - (intOf v).toNat)
    case atStart => exact ⟨0, by omega, rfl⟩
    case round =>
      obtain ⟨k, hk, rfl⟩ := hrel
      by_cases hlt : k < h.size
      · by_cases hz : k = 0
        · subst hz
          go_wp2
          go_round
          case rel => exact ⟨1, by omega, by go_num⟩
          case measure => simp [intOf]; omega
        · have hz1 : ((k : Int) == 0) = false := by rw [beq_eq_false_iff_ne]; omega
          by_cases hc : bt h k = 43
          · have hc1 : (bt h k == 43) = true := by rw [hc]; rfl
            clear hc
            go_wp2
            go_round
            case rel => exact ⟨k + 1, by omega, by go_num⟩
            case measure => simp [intOf]; omega
          · have hc1 : (bt h k == 43) = false := by rw [beq_eq_false_iff_ne]; exact hc
            clear hc
            go_wp2
            go_round
            case rel => exact ⟨k + 1, by omega, by go_num⟩
            case measure => simp [intOf]; omega
      · obtain rfl : k = h.size := by omega
        go_wp2_with (first
              | (go_at_call 44; refine (specCutI _ _ _ (by assumption) (by decide)).mono ?_; rw [HC.out]; rintro e w' ⟨rfl, n1, rfl⟩)
              | (go_at_call 56; refine (digs_b _ _ (by assumption)).mono ?_; (first | rw [HH.out] | rw [HT.out]); rintro e w' ⟨rfl, rfl⟩)
              | (go_at_call 34; refine (dec_no h _ hh HDC.out).mono ?_; rintro e w' ⟨rfl, rfl⟩)
              | fail)
        refine bodyPost_ret (results_row_tmp1 rfl _ _ w.heap.size _ [.int .i64 0, .int .i64 0] _ rfl (two_blk w _ _ _ _ _ n1) Tryz.underlying29 rfl sTimInfo) rfl ?_
        exact ⟨rfl, two_below _ _ _ _ _ _ _⟩

set_option maxRecDepth 20000 in
set_option maxHeartbeats 3200000 in
theorem sTim_long1 {c b : Bool} (s u h t : ByteArray) (w : World) (hs : s.size ≤ 2147483647) (hu : u.size ≤ s.size) (hhu : h.size ≤ u.size) (htu : t.size ≤ u.size) (HC : Hid (cutI 46 u = .tuple #[.string h, .string t, .bool c])) (HMn : Hid (Minus s u b)) (hp : bt h 0 ≠ 43) (hdc : DecOk h) (h18 : 18 < h.size) (hz2 : ¬ t.size = 0) (hd2 : DigOk t) :
    Calls Tryz.prog 35 #[.string s] w (STim 0 0 0 w) := by
  have hu2 : u.size ≤ 4611686018427387904 := by omega
  have hh : h.size ≤ 4611686018427387904 := by omega
  have ht : t.size ≤ 4611686018427387904 := by omega
  have hbs := get_bt s
  have hbh := get_bt h
  have hbt := get_bt t
  have hc0 : (bt h 0 == 43) = false := by rw [beq_eq_false_iff_ne]; exact hp
  clear hp
  obtain ⟨e1, e2⟩ := empty_no (Nat.ne_of_gt hdc.1)
  have HDC := Lib.hid hdc
  obtain ⟨W, hW⟩ : ∃ W, vl 0 h.data.toList = W := ⟨_, rfl⟩
  have HVL := Lib.hid hW
  have HH : Hid (digB h = true) := Lib.hid (digB_yes ⟨hdc.1, hdc.2.2.1⟩)
  obtain ⟨e3, e4⟩ := empty_no hz2
  have HT : Hid (digB t = true) := Lib.hid (digB_yes hd2)
  clear hz2 hd2
  clear hdc hW
  rcases HMn.out with ⟨rfl, hm1, hm2, rfl⟩ | ⟨rfl, hm1, hm2, rfl⟩
  · have hm3 : (bt s 0 == 45) = true := by rw [hm2]; rfl
    have hm4 : (0 : Int) < (s.size : Int) := by omega
    have hm5 : (1 : Int) ≤ (s.size : Int) := by omega
    clear hm2 HMn
    go_enter Tryz.func35, Tryz.ntmps35
    go_wp2_with (first
          | (go_at_call 44; refine (specCutI _ _ _ (by assumption) (by decide)).mono ?_; rw [HC.out]; rintro e w' ⟨rfl, n1, rfl⟩)
          | fail)
    go_loop [33] (fun v => ∃ k : Nat, k ≤ h.size ∧ v = .int .i64 k) (fun v => h.size - (intOf v).toNat)
    case atStart => exact ⟨0, by omega, rfl⟩
    case round =>
      obtain ⟨k, hk, rfl⟩ := hrel
      by_cases hlt : k < h.size
      · by_cases hz : k = 0
        · subst hz
          go_wp2
          go_round
          case rel => exact ⟨1, by omega, by go_num⟩
          case measure => simp [intOf]; omega
        · have hz1 : ((k : Int) == 0) = false := by rw [beq_eq_false_iff_ne]; omega
          by_cases hc : bt h k = 43
          · have hc1 : (bt h k == 43) = true := by rw [hc]; rfl
            clear hc
            go_wp2
            go_round
            case rel => exact ⟨k + 1, by omega, by go_num⟩
            case measure => simp [intOf]; omega
          · have hc1 : (bt h k == 43) = false := by rw [beq_eq_false_iff_ne]; exact hc
            clear hc
            go_wp2
            go_round
            case rel => exact ⟨k + 1, by omega, by go_num⟩
            case measure => simp [intOf]; omega
      · obtain rfl : k = h.size := by omega
        go_wp2_with (first
              | (go_at_call 44; refine (specCutI _ _ _ (by assumption) (by decide)).mono ?_; rw [HC.out]; rintro e w' ⟨rfl, n1, rfl⟩)
              | (go_at_call 56; refine (digs_b _ _ (by assumption)).mono ?_; (first | rw [HH.out] | rw [HT.out]); rintro e w' ⟨rfl, rfl⟩)
              | (go_at_call 34; refine (dec_yes h _ hh HDC.out).mono ?_; rw [HVL.out]; rintro e w' ⟨rfl, rfl⟩)
              | fail)
        refine bodyPost_ret (results_row_tmp1 rfl _ _ w.heap.size _ [.int .i64 0, .int .i64 0] _ rfl (two_blk w _ _ _ _ _ n1) Tryz.underlying29 rfl sTimInfo) rfl ?_
        exact ⟨rfl, two_below _ _ _ _ _ _ _⟩
  · have hm3 : (bt u 0 == 45) = false := by rw [beq_eq_false_iff_ne]; exact hm2
    have hm4 : (0 : Int) < (u.size : Int) := by omega
    clear hm2 HMn
    go_enter Tryz.func35, Tryz.ntmps35
    go_wp2_with (first
          | (go_at_call 44; refine (specCutI _ _ _ (by assumption) (by decide)).mono ?_; rw [HC.out]; rintro e w' ⟨rfl, n1, rfl⟩)
          | fail)
    go_loop [33] (fun v => ∃ k : Nat, k ≤ h.size ∧ v = .int .i64 k) (fun v => h.size - (intOf v).toNat)
    case atStart => exact ⟨0, by omega, rfl⟩
    case round =>
      obtain ⟨k, hk, rfl⟩ := hrel
      by_cases hlt : k < h.size
      · by_cases hz : k = 0
        · subst hz
          go_wp2
          go_round
          case rel => exact ⟨1, by omega, by go_num⟩
          case measure => simp [intOf]; omega
        · have hz1 : ((k : Int) == 0) = false := by rw [beq_eq_false_iff_ne]; omega
          by_cases hc : bt h k = 43
          · have hc1 : (bt h k == 43) = true := by rw [hc]; rfl
            clear hc
            go_wp2
            go_round
            case rel => exact ⟨k + 1, by omega, by go_num⟩
            case measure => simp [intOf]; omega
          · have hc1 : (bt h k == 43) = false := by rw [beq_eq_false_iff_ne]; exact hc
            clear hc
            go_wp2
            go_round
            case rel => exact ⟨k + 1, by omega, by go_num⟩
            case measure => simp [intOf]; omega
      · obtain rfl : k = h.size := by omega
        go_wp2_with (first
              | (go_at_call 44; refine (specCutI _ _ _ (by assumption) (by decide)).mono ?_; rw [HC.out]; rintro e w' ⟨rfl, n1, rfl⟩)
              | (go_at_call 56; refine (digs_b _ _ (by assumption)).mono ?_; (first | rw [HH.out] | rw [HT.out]); rintro e w' ⟨rfl, rfl⟩)
              | (go_at_call 34; refine (dec_yes h _ hh HDC.out).mono ?_; rw [HVL.out]; rintro e w' ⟨rfl, rfl⟩)
              | fail)
        refine bodyPost_ret (results_row_tmp1 rfl _ _ w.heap.size _ [.int .i64 0, .int .i64 0] _ rfl (two_blk w _ _ _ _ _ n1) Tryz.underlying29 rfl sTimInfo) rfl ?_
        exact ⟨rfl, two_below _ _ _ _ _ _ _⟩

set_option maxRecDepth 20000 in
set_option maxHeartbeats 3200000 in
theorem sTim_noPart {c b : Bool} (s u h t : ByteArray) (w : World) (hs : s.size ≤ 2147483647) (hu : u.size ≤ s.size) (hhu : h.size ≤ u.size) (htu : t.size ≤ u.size) (HC : Hid (cutI 46 u = .tuple #[.string h, .string t, .bool c])) (HMn : Hid (Minus s u b)) (hp : bt h 0 ≠ 43) (hdc : DecOk h) (h18 : h.size ≤ 18) (hc : c = true) (hz2 : t.size = 0) :
    Calls Tryz.prog 35 #[.string s] w (STim 0 0 0 w) := by
  have hu2 : u.size ≤ 4611686018427387904 := by omega
  have hh : h.size ≤ 4611686018427387904 := by omega
  have ht : t.size ≤ 4611686018427387904 := by omega
  have hbs := get_bt s
  have hbh := get_bt h
  have hbt := get_bt t
  have hc0 : (bt h 0 == 43) = false := by rw [beq_eq_false_iff_ne]; exact hp
  clear hp
  obtain ⟨e1, e2⟩ := empty_no (Nat.ne_of_gt hdc.1)
  have HDC := Lib.hid hdc
  obtain ⟨W, hW⟩ : ∃ W, vl 0 h.data.toList = W := ⟨_, rfl⟩
  have HVL := Lib.hid hW
  have HH : Hid (digB h = true) := Lib.hid (digB_yes ⟨hdc.1, hdc.2.2.1⟩)
  obtain ⟨e3, e4⟩ := empty_yes hz2
  have HT : Hid (digB h = digB h) := Lib.hid rfl
  clear hz2
  clear hdc hW
  subst hc
  have h18' : ¬ (18 : Int) < (h.size : Int) := by omega
  rcases HMn.out with ⟨rfl, hm1, hm2, rfl⟩ | ⟨rfl, hm1, hm2, rfl⟩
  · have hm3 : (bt s 0 == 45) = true := by rw [hm2]; rfl
    have hm4 : (0 : Int) < (s.size : Int) := by omega
    have hm5 : (1 : Int) ≤ (s.size : Int) := by omega
    clear hm2 HMn
    go_enter Tryz.func35, Tryz.ntmps35
    go_wp2_with (first
          | (go_at_call 44; refine (specCutI _ _ _ (by assumption) (by decide)).mono ?_; rw [HC.out]; rintro e w' ⟨rfl, n1, rfl⟩)
          | fail)
    go_loop [33] (fun v => ∃ k : Nat, k ≤ h.size ∧ v = .int .i64 k) (fun v => h.size - (intOf v).toNat)
    case atStart => exact ⟨0, by omega, rfl⟩
    case round =>
      obtain ⟨k, hk, rfl⟩ := hrel
      by_cases hlt : k < h.size
      · by_cases hz : k = 0
        · subst hz
          go_wp2
          go_round
          case rel => exact ⟨1, by omega, by go_num⟩
          case measure => simp [intOf]; omega
        · have hz1 : ((k : Int) == 0) = false := by rw [beq_eq_false_iff_ne]; omega
          by_cases hc : bt h k = 43
          · have hc1 : (bt h k == 43) = true := by rw [hc]; rfl
            clear hc
            go_wp2
            go_round
            case rel => exact ⟨k + 1, by omega, by go_num⟩
            case measure => simp [intOf]; omega
          · have hc1 : (bt h k == 43) = false := by rw [beq_eq_false_iff_ne]; exact hc
            clear hc
            go_wp2
            go_round
            case rel => exact ⟨k + 1, by omega, by go_num⟩
            case measure => simp [intOf]; omega
      · obtain rfl : k = h.size := by omega
        go_wp2_with (first
              | (go_at_call 44; refine (specCutI _ _ _ (by assumption) (by decide)).mono ?_; rw [HC.out]; rintro e w' ⟨rfl, n1, rfl⟩)
              | (go_at_call 56; refine (digs_b _ _ (by assumption)).mono ?_; (first | rw [HH.out] | rw [HT.out]); rintro e w' ⟨rfl, rfl⟩)
              | (go_at_call 34; refine (dec_yes h _ hh HDC.out).mono ?_; rw [HVL.out]; rintro e w' ⟨rfl, rfl⟩)
              | fail)
        refine bodyPost_ret (results_row_tmp1 rfl _ _ w.heap.size _ [.int .i64 0, .int .i64 0] _ rfl (two_blk w _ _ _ _ _ n1) Tryz.underlying29 rfl sTimInfo) rfl ?_
        exact ⟨rfl, two_below _ _ _ _ _ _ _⟩
  · have hm3 : (bt u 0 == 45) = false := by rw [beq_eq_false_iff_ne]; exact hm2
    have hm4 : (0 : Int) < (u.size : Int) := by omega
    clear hm2 HMn
    go_enter Tryz.func35, Tryz.ntmps35
    go_wp2_with (first
          | (go_at_call 44; refine (specCutI _ _ _ (by assumption) (by decide)).mono ?_; rw [HC.out]; rintro e w' ⟨rfl, n1, rfl⟩)
          | fail)
    go_loop [33] (fun v => ∃ k : Nat, k ≤ h.size ∧ v = .int .i64 k) (fun v => h.size - (intOf v).toNat)
    case atStart => exact ⟨0, by omega, rfl⟩
    case round =>
      obtain ⟨k, hk, rfl⟩ := hrel
      by_cases hlt : k < h.size
      · by_cases hz : k = 0
        · subst hz
          go_wp2
          go_round
          case rel => exact ⟨1, by omega, by go_num⟩
          case measure => simp [intOf]; omega
        · have hz1 : ((k : Int) == 0) = false := by rw [beq_eq_false_iff_ne]; omega
          by_cases hc : bt h k = 43
          · have hc1 : (bt h k == 43) = true := by rw [hc]; rfl
            clear hc
            go_wp2
            go_round
            case rel => exact ⟨k + 1, by omega, by go_num⟩
            case measure => simp [intOf]; omega
          · have hc1 : (bt h k == 43) = false := by rw [beq_eq_false_iff_ne]; exact hc
            clear hc
            go_wp2
            go_round
            case rel => exact ⟨k + 1, by omega, by go_num⟩
            case measure => simp [intOf]; omega
      · obtain rfl : k = h.size := by omega
        go_wp2_with (first
              | (go_at_call 44; refine (specCutI _ _ _ (by assumption) (by decide)).mono ?_; rw [HC.out]; rintro e w' ⟨rfl, n1, rfl⟩)
              | (go_at_call 56; refine (digs_b _ _ (by assumption)).mono ?_; (first | rw [HH.out] | rw [HT.out]); rintro e w' ⟨rfl, rfl⟩)
              | (go_at_call 34; refine (dec_yes h _ hh HDC.out).mono ?_; rw [HVL.out]; rintro e w' ⟨rfl, rfl⟩)
              | fail)
        refine bodyPost_ret (results_row_tmp1 rfl _ _ w.heap.size _ [.int .i64 0, .int .i64 0] _ rfl (two_blk w _ _ _ _ _ n1) Tryz.underlying29 rfl sTimInfo) rfl ?_
        exact ⟨rfl, two_below _ _ _ _ _ _ _⟩
end Go.Proofs.YtepeehjajhehfaaGreatDoor
namespace Go.Proofs.YtepeehjajhehfaaGreatDoor
open Go.RowKit Go.PlainAid
set_option linter.unusedVariables false

def secV (b : Bool) (W n : Nat) : Int := if b = true then (if n = 0 then -(W : Int) else -(W : Int) - 1) else (W : Int)
def nsV (b : Bool) (n : Nat) : Int := if b = true then (if n = 0 then 0 else 1000000000 - (n : Int)) else (n : Int)

set_option maxRecDepth 20000 in
set_option maxHeartbeats 3200000 in
theorem sTim_right0 {c b : Bool} (s u h t : ByteArray) (w : World) (hs : s.size ≤ 2147483647) (hu : u.size ≤ s.size) (hhu : h.size ≤ u.size) (htu : t.size ≤ u.size) (HC : Hid (cutI 46 u = .tuple #[.string h, .string t, .bool c])) (HMn : Hid (Minus s u b)) (hp : bt h 0 ≠ 43) (hdc : DecOk h) (h18 : h.size ≤ 18) (hc : c = false) (hz2 : t.size = 0) (W n : Nat) (hWW : vl 0 h.data.toList = W) (hn : nano t.data.toList = n) (hdig : allDig t.data.toList) (hz : Zeros t) :
    Calls Tryz.prog 35 #[.string s] w (STim (secV b W n) (nsV b n) 1 w) := by
  have hu2 : u.size ≤ 4611686018427387904 := by omega
  have hh : h.size ≤ 4611686018427387904 := by omega
  have ht : t.size ≤ 4611686018427387904 := by omega
  have hbs := get_bt s
  have hbh := get_bt h
  have hbt := get_bt t
  have hc0 : (bt h 0 == 43) = false := by rw [beq_eq_false_iff_ne]; exact hp
  clear hp
  obtain ⟨e1, e2⟩ := empty_no (Nat.ne_of_gt hdc.1)
  have HDC := Lib.hid hdc
  have HVL := Lib.hid hWW
  have HH : Hid (digB h = true) := Lib.hid (digB_yes ⟨hdc.1, hdc.2.2.1⟩)
  obtain ⟨e3, e4⟩ := empty_yes hz2
  have HT : Hid (digB h = digB h) := Lib.hid rfl
  clear hz2
  clear hdc hWW
  subst hc
  have h18' : ¬ (18 : Int) < (h.size : Int) := by omega
  have hn9 : n ≤ 999999999 := by rw [← hn]; have := nano_lt (l := t.data.toList) hdig; omega
  have HNN := Lib.hid hn
  have HDG : Hid (∀ j, j < t.size → 48 ≤ bt t j ∧ bt t j ≤ 57) := Lib.hid (fun j hj => allDig_bt t hdig j hj)
  obtain ⟨M, hM1, hM9, hMt, hMx⟩ : ∃ M : Nat, max (9 : Int) (t.size : Int) = (M : Int) ∧ 9 ≤ M ∧ t.size ≤ M ∧ (M = 9 ∨ M = t.size) := ⟨max 9 t.size, by omega, by omega, by omega, by omega⟩
  have HMX := Lib.hid hMx
  have hW63 : W ≤ 9223372036854775807 := by rw [← HVL.out]; exact HDC.out.2.2.2
  clear hn hMx hdig
  have HZZ := Lib.hid hz
  clear hz
  rcases HMn.out with ⟨rfl, hm1, hm2, rfl⟩ | ⟨rfl, hm1, hm2, rfl⟩
  · have hm3 : (bt s 0 == 45) = true := by rw [hm2]; rfl
    have hm4 : (0 : Int) < (s.size : Int) := by omega
    have hm5 : (1 : Int) ≤ (s.size : Int) := by omega
    clear hm2 HMn
    go_enter Tryz.func35, Tryz.ntmps35
    go_wp2_with (first
          | (go_at_call 44; refine (specCutI _ _ _ (by assumption) (by decide)).mono ?_; rw [HC.out]; rintro e w' ⟨rfl, n1, rfl⟩)
          | fail)
    go_loop [33] (fun v => ∃ k : Nat, k ≤ h.size ∧ v = .int .i64 k) (fun v => h.size - (intOf v).toNat)
    case atStart => exact ⟨0, by omega, rfl⟩
    case round =>
      obtain ⟨k, hk, rfl⟩ := hrel
      by_cases hlt : k < h.size
      · by_cases hz : k = 0
        · subst hz
          go_wp2
          go_round
          case rel => exact ⟨1, by omega, by go_num⟩
          case measure => simp [intOf]; omega
        · have hz1 : ((k : Int) == 0) = false := by rw [beq_eq_false_iff_ne]; omega
          by_cases hc : bt h k = 43
          · have hc1 : (bt h k == 43) = true := by rw [hc]; rfl
            clear hc
            go_wp2
            go_round
            case rel => exact ⟨k + 1, by omega, by go_num⟩
            case measure => simp [intOf]; omega
          · have hc1 : (bt h k == 43) = false := by rw [beq_eq_false_iff_ne]; exact hc
            clear hc
            go_wp2
            go_round
            case rel => exact ⟨k + 1, by omega, by go_num⟩
            case measure => simp [intOf]; omega
      · obtain rfl : k = h.size := by omega
        go_wp2_with (first
              | (go_at_call 44; refine (specCutI _ _ _ (by assumption) (by decide)).mono ?_; rw [HC.out]; rintro e w' ⟨rfl, n1, rfl⟩)
              | (go_at_call 56; refine (digs_b _ _ (by assumption)).mono ?_; (first | rw [HH.out] | rw [HT.out]); rintro e w' ⟨rfl, rfl⟩)
              | (go_at_call 34; refine (dec_yes h _ hh HDC.out).mono ?_; rw [HVL.out]; rintro e w' ⟨rfl, rfl⟩)
              | fail)
        go_loop [93, 11] (fun i a => ∃ k : Nat, k ≤ M ∧ i = .int .i64 k ∧ a = .int .i64 ((nacc t.data.toList k : Nat) : Int) ∧ Hid (∀ j, 9 ≤ j → j < k → j < t.size → bt t j = 48)) (fun i _ => M - (intOf i).toNat)
        case atStart => exact ⟨0, by omega, rfl, rfl, Lib.hid (fun j hj hj2 => by omega)⟩
        case round =>
          obtain ⟨k, hk, rfl, rfl, hZ⟩ := hrel
          obtain ⟨A, hA⟩ : ∃ A, nacc t.data.toList k = A := ⟨_, rfl⟩
          have hA9 : A ≤ 999999999 := by rw [← hA]; have := nacc_le t.data.toList k; have := HNN.out; omega
          rw [hA]
          have HA := Lib.hid hA
          clear hA
          by_cases hkM : k < M
          · by_cases hkt : k < t.size
            · obtain ⟨d1, d2⟩ := HDG.out k hkt
              obtain ⟨d, hd⟩ : ∃ d : Int, bt t k = 48 + d := ⟨bt t k - 48, by omega⟩
              have u1 : IntKind.u8.wrap (bt t k - 48) = d := by rw [IntWalk.u8_in _ ⟨by omega, by omega⟩]; omega
              have u2 : IntKind.i64.wrap d = d := IntWalk.i64_in _ (by omega)
              have u3 : IntKind.i64.wrap ((A : Int) * 10) = (A : Int) * 10 := IntWalk.i64_in _ (by omega)
              by_cases h9 : k < 9
              · obtain ⟨A', hA'⟩ : ∃ A', nacc t.data.toList (k + 1) = A' := ⟨_, rfl⟩
                have hs1 := nacc_in t k h9 hkt d hd (by omega)
                rw [hA', HA.out] at hs1
                have u4 : IntKind.i64.wrap ((A : Int) * 10 + d) = (A' : Int) := by rw [IntWalk.i64_in _ (by omega)]; exact hs1.symm
                have HA' := Lib.hid hA'
                have h9' : (k : Int) < 9 := by omega
                clear hA' hs1 d1 d2 hd
                go_wp2
                go_round
                case rel => exact ⟨k + 1, by omega, by go_num, by rw [HA'.out], Lib.hid (fun j hj hj2 => by omega)⟩
                case measure => simp [intOf]; omega
              · have h9' : ¬ (k : Int) < 9 := by omega
                by_cases hd0 : bt t k = 48
                · obtain rfl : d = 0 := by omega
                  have HZ : Hid (∀ j, 9 ≤ j → j < k + 1 → j < t.size → bt t j = 48) := Lib.hid (fun j hj hj2 hj3 => by
                    by_cases e : j < k
                    · exact hZ.out j hj e hj3
                    · obtain rfl : j = k := by omega
                      exact hd0)
                  clear d1 d2 hd hd0
                  go_wp2
                  go_round
                  case rel => exact ⟨k + 1, by omega, by go_num, by rw [nacc_more _ _ (by omega), HA.out], HZ⟩
                  case measure => simp [intOf]; omega
                · exact absurd (HZZ.out k (by omega) hkt) hd0
            · have h9 : k < 9 := by have := HMX.out; omega
              obtain ⟨A', hA'⟩ : ∃ A', nacc t.data.toList (k + 1) = A' := ⟨_, rfl⟩
              have hs1 := nacc_out t k h9 hkt
              rw [hA', HA.out] at hs1
              have u3 : IntKind.i64.wrap ((A : Int) * 10) = (A : Int) * 10 := IntWalk.i64_in _ (by omega)
              have u4 : IntKind.i64.wrap ((A : Int) * 10 + 0) = (A' : Int) := by rw [IntWalk.i64_in _ (by omega)]; exact hs1.symm
              have u5 : (A : Int) * 10 = (A' : Int) := by omega
              have HA' := Lib.hid hA'
              have h9' : (k : Int) < 9 := by omega
              clear hA' hs1
              go_wp2
              go_round
              case rel => exact ⟨k + 1, by omega, by go_num, by rw [HA'.out], Lib.hid (fun j hj hj2 => by omega)⟩
              case measure => simp [intOf]; omega
          · obtain rfl : k = M := by omega
            have hAn : A = n := by rw [← HA.out, nacc_all _ _ hM9]; exact HNN.out
            subst hAn
            have v1 : IntKind.i64.wrap (-(W : Int)) = -(W : Int) := IntWalk.i64_in _ (by omega)
            by_cases hA0 : A = 0
            · subst hA0
              go_wp2
              refine bodyPost_ret (results_row_tmp1 rfl _ _ w.heap.size _ [.int .i64 (-(W : Int)), .int .i64 0] _ rfl (two_blk w _ _ _ _ _ n1) Tryz.underlying29 rfl sTimInfo) rfl ?_
              exact ⟨rfl, two_below _ _ _ _ _ _ _⟩
            · have hA1 : (0 : Int) < (A : Int) := by omega
              have v2 : IntKind.i64.wrap (-(W : Int) - 1) = -(W : Int) - 1 := IntWalk.i64_in _ (by omega)
              have v3 : IntKind.i64.wrap (1000000000 - (A : Int)) = 1000000000 - (A : Int) := IntWalk.i64_in _ (by omega)
              have hsec : secV true W A = -(W : Int) - 1 := by unfold secV; rw [if_pos rfl, if_neg hA0]
              have hns : nsV true A = 1000000000 - (A : Int) := by unfold nsV; rw [if_pos rfl, if_neg hA0]
              rw [hsec, hns]
              clear hA0
              go_wp2
              refine bodyPost_ret (results_row_tmp1 rfl _ _ w.heap.size _ [.int .i64 (-(W : Int) - 1), .int .i64 (1000000000 - (A : Int))] _ rfl (two_blk w _ _ _ _ _ n1) Tryz.underlying29 rfl sTimInfo) rfl ?_
              exact ⟨rfl, two_below _ _ _ _ _ _ _⟩
  · have hm3 : (bt u 0 == 45) = false := by rw [beq_eq_false_iff_ne]; exact hm2
    have hm4 : (0 : Int) < (u.size : Int) := by omega
    clear hm2 HMn
    go_enter Tryz.func35, Tryz.ntmps35
    go_wp2_with (first
          | (go_at_call 44; refine (specCutI _ _ _ (by assumption) (by decide)).mono ?_; rw [HC.out]; rintro e w' ⟨rfl, n1, rfl⟩)
          | fail)
    go_loop [33] (fun v => ∃ k : Nat, k ≤ h.size ∧ v = .int .i64 k) (fun v => h.size - (intOf v).toNat)
    case atStart => exact ⟨0, by omega, rfl⟩
    case round =>
      obtain ⟨k, hk, rfl⟩ := hrel
      by_cases hlt : k < h.size
      · by_cases hz : k = 0
        · subst hz
          go_wp2
          go_round
          case rel => exact ⟨1, by omega, by go_num⟩
          case measure => simp [intOf]; omega
        · have hz1 : ((k : Int) == 0) = false := by rw [beq_eq_false_iff_ne]; omega
          by_cases hc : bt h k = 43
          · have hc1 : (bt h k == 43) = true := by rw [hc]; rfl
            clear hc
            go_wp2
            go_round
            case rel => exact ⟨k + 1, by omega, by go_num⟩
            case measure => simp [intOf]; omega
          · have hc1 : (bt h k == 43) = false := by rw [beq_eq_false_iff_ne]; exact hc
            clear hc
            go_wp2
            go_round
            case rel => exact ⟨k + 1, by omega, by go_num⟩
            case measure => simp [intOf]; omega
      · obtain rfl : k = h.size := by omega
        go_wp2_with (first
              | (go_at_call 44; refine (specCutI _ _ _ (by assumption) (by decide)).mono ?_; rw [HC.out]; rintro e w' ⟨rfl, n1, rfl⟩)
              | (go_at_call 56; refine (digs_b _ _ (by assumption)).mono ?_; (first | rw [HH.out] | rw [HT.out]); rintro e w' ⟨rfl, rfl⟩)
              | (go_at_call 34; refine (dec_yes h _ hh HDC.out).mono ?_; rw [HVL.out]; rintro e w' ⟨rfl, rfl⟩)
              | fail)
        go_loop [93, 11] (fun i a => ∃ k : Nat, k ≤ M ∧ i = .int .i64 k ∧ a = .int .i64 ((nacc t.data.toList k : Nat) : Int) ∧ Hid (∀ j, 9 ≤ j → j < k → j < t.size → bt t j = 48)) (fun i _ => M - (intOf i).toNat)
        case atStart => exact ⟨0, by omega, rfl, rfl, Lib.hid (fun j hj hj2 => by omega)⟩
        case round =>
          obtain ⟨k, hk, rfl, rfl, hZ⟩ := hrel
          obtain ⟨A, hA⟩ : ∃ A, nacc t.data.toList k = A := ⟨_, rfl⟩
          have hA9 : A ≤ 999999999 := by rw [← hA]; have := nacc_le t.data.toList k; have := HNN.out; omega
          rw [hA]
          have HA := Lib.hid hA
          clear hA
          by_cases hkM : k < M
          · by_cases hkt : k < t.size
            · obtain ⟨d1, d2⟩ := HDG.out k hkt
              obtain ⟨d, hd⟩ : ∃ d : Int, bt t k = 48 + d := ⟨bt t k - 48, by omega⟩
              have u1 : IntKind.u8.wrap (bt t k - 48) = d := by rw [IntWalk.u8_in _ ⟨by omega, by omega⟩]; omega
              have u2 : IntKind.i64.wrap d = d := IntWalk.i64_in _ (by omega)
              have u3 : IntKind.i64.wrap ((A : Int) * 10) = (A : Int) * 10 := IntWalk.i64_in _ (by omega)
              by_cases h9 : k < 9
              · obtain ⟨A', hA'⟩ : ∃ A', nacc t.data.toList (k + 1) = A' := ⟨_, rfl⟩
                have hs1 := nacc_in t k h9 hkt d hd (by omega)
                rw [hA', HA.out] at hs1
                have u4 : IntKind.i64.wrap ((A : Int) * 10 + d) = (A' : Int) := by rw [IntWalk.i64_in _ (by omega)]; exact hs1.symm
                have HA' := Lib.hid hA'
                have h9' : (k : Int) < 9 := by omega
                clear hA' hs1 d1 d2 hd
                go_wp2
                go_round
                case rel => exact ⟨k + 1, by omega, by go_num, by rw [HA'.out], Lib.hid (fun j hj hj2 => by omega)⟩
                case measure => simp [intOf]; omega
              · have h9' : ¬ (k : Int) < 9 := by omega
                by_cases hd0 : bt t k = 48
                · obtain rfl : d = 0 := by omega
                  have HZ : Hid (∀ j, 9 ≤ j → j < k + 1 → j < t.size → bt t j = 48) := Lib.hid (fun j hj hj2 hj3 => by
                    by_cases e : j < k
                    · exact hZ.out j hj e hj3
                    · obtain rfl : j = k := by omega
                      exact hd0)
                  clear d1 d2 hd hd0
                  go_wp2
                  go_round
                  case rel => exact ⟨k + 1, by omega, by go_num, by rw [nacc_more _ _ (by omega), HA.out], HZ⟩
                  case measure => simp [intOf]; omega
                · exact absurd (HZZ.out k (by omega) hkt) hd0
            · have h9 : k < 9 := by have := HMX.out; omega
              obtain ⟨A', hA'⟩ : ∃ A', nacc t.data.toList (k + 1) = A' := ⟨_, rfl⟩
              have hs1 := nacc_out t k h9 hkt
              rw [hA', HA.out] at hs1
              have u3 : IntKind.i64.wrap ((A : Int) * 10) = (A : Int) * 10 := IntWalk.i64_in _ (by omega)
              have u4 : IntKind.i64.wrap ((A : Int) * 10 + 0) = (A' : Int) := by rw [IntWalk.i64_in _ (by omega)]; exact hs1.symm
              have u5 : (A : Int) * 10 = (A' : Int) := by omega
              have HA' := Lib.hid hA'
              have h9' : (k : Int) < 9 := by omega
              clear hA' hs1
              go_wp2
              go_round
              case rel => exact ⟨k + 1, by omega, by go_num, by rw [HA'.out], Lib.hid (fun j hj hj2 => by omega)⟩
              case measure => simp [intOf]; omega
          · obtain rfl : k = M := by omega
            have hAn : A = n := by rw [← HA.out, nacc_all _ _ hM9]; exact HNN.out
            subst hAn
            go_wp2
            refine bodyPost_ret (results_row_tmp1 rfl _ _ w.heap.size _ [.int .i64 W, .int .i64 A] _ rfl (two_blk w _ _ _ _ _ n1) Tryz.underlying29 rfl sTimInfo) rfl ?_
            exact ⟨rfl, two_below _ _ _ _ _ _ _⟩

set_option maxRecDepth 20000 in
set_option maxHeartbeats 3200000 in
theorem sTim_right1 {c b : Bool} (s u h t : ByteArray) (w : World) (hs : s.size ≤ 2147483647) (hu : u.size ≤ s.size) (hhu : h.size ≤ u.size) (htu : t.size ≤ u.size) (HC : Hid (cutI 46 u = .tuple #[.string h, .string t, .bool c])) (HMn : Hid (Minus s u b)) (hp : bt h 0 ≠ 43) (hdc : DecOk h) (h18 : h.size ≤ 18) (hc : c = true) (hz2 : ¬ t.size = 0) (hd2 : DigOk t) (W n : Nat) (hWW : vl 0 h.data.toList = W) (hn : nano t.data.toList = n) (hdig : allDig t.data.toList) (hz : Zeros t) :
    Calls Tryz.prog 35 #[.string s] w (STim (secV b W n) (nsV b n) 1 w) := by
  have hu2 : u.size ≤ 4611686018427387904 := by omega
  have hh : h.size ≤ 4611686018427387904 := by omega
  have ht : t.size ≤ 4611686018427387904 := by omega
  have hbs := get_bt s
  have hbh := get_bt h
  have hbt := get_bt t
  have hc0 : (bt h 0 == 43) = false := by rw [beq_eq_false_iff_ne]; exact hp
  clear hp
  obtain ⟨e1, e2⟩ := empty_no (Nat.ne_of_gt hdc.1)
  have HDC := Lib.hid hdc
  have HVL := Lib.hid hWW
  have HH : Hid (digB h = true) := Lib.hid (digB_yes ⟨hdc.1, hdc.2.2.1⟩)
  obtain ⟨e3, e4⟩ := empty_no hz2
  have HT : Hid (digB t = true) := Lib.hid (digB_yes hd2)
  clear hz2 hd2
  clear hdc hWW
  subst hc
  have h18' : ¬ (18 : Int) < (h.size : Int) := by omega
  have hn9 : n ≤ 999999999 := by rw [← hn]; have := nano_lt (l := t.data.toList) hdig; omega
  have HNN := Lib.hid hn
  have HDG : Hid (∀ j, j < t.size → 48 ≤ bt t j ∧ bt t j ≤ 57) := Lib.hid (fun j hj => allDig_bt t hdig j hj)
  obtain ⟨M, hM1, hM9, hMt, hMx⟩ : ∃ M : Nat, max (9 : Int) (t.size : Int) = (M : Int) ∧ 9 ≤ M ∧ t.size ≤ M ∧ (M = 9 ∨ M = t.size) := ⟨max 9 t.size, by omega, by omega, by omega, by omega⟩
  have HMX := Lib.hid hMx
  have hW63 : W ≤ 9223372036854775807 := by rw [← HVL.out]; exact HDC.out.2.2.2
  clear hn hMx hdig
  have HZZ := Lib.hid hz
  clear hz
  rcases HMn.out with ⟨rfl, hm1, hm2, rfl⟩ | ⟨rfl, hm1, hm2, rfl⟩
  · have hm3 : (bt s 0 == 45) = true := by rw [hm2]; rfl
    have hm4 : (0 : Int) < (s.size : Int) := by omega
    have hm5 : (1 : Int) ≤ (s.size : Int) := by omega
    clear hm2 HMn
    go_enter Tryz.func35, Tryz.ntmps35
    go_wp2_with (first
          | (go_at_call 44; refine (specCutI _ _ _ (by assumption) (by decide)).mono ?_; rw [HC.out]; rintro e w' ⟨rfl, n1, rfl⟩)
          | fail)
    go_loop [33] (fun v => ∃ k : Nat, k ≤ h.size ∧ v = .int .i64 k) (fun v => h.size - (intOf v).toNat)
    case atStart => exact ⟨0, by omega, rfl⟩
    case round =>
      obtain ⟨k, hk, rfl⟩ := hrel
      by_cases hlt : k < h.size
      · by_cases hz : k = 0
        · subst hz
          go_wp2
          go_round
          case rel => exact ⟨1, by omega, by go_num⟩
          case measure => simp [intOf]; omega
        · have hz1 : ((k : Int) == 0) = false := by rw [beq_eq_false_iff_ne]; omega
          by_cases hc : bt h k = 43
          · have hc1 : (bt h k == 43) = true := by rw [hc]; rfl
            clear hc
            go_wp2
            go_round
            case rel => exact ⟨k + 1, by omega, by go_num⟩
            case measure => simp [intOf]; omega
          · have hc1 : (bt h k == 43) = false := by rw [beq_eq_false_iff_ne]; exact hc
            clear hc
            go_wp2
            go_round
            case rel => exact ⟨k + 1, by omega, by go_num⟩
            case measure => simp [intOf]; omega
      · obtain rfl : k = h.size := by omega
        go_wp2_with (first
              | (go_at_call 44; refine (specCutI _ _ _ (by assumption) (by decide)).mono ?_; rw [HC.out]; rintro e w' ⟨rfl, n1, rfl⟩)
              | (go_at_call 56; refine (digs_b _ _ (by assumption)).mono ?_; (first | rw [HH.out] | rw [HT.out]); rintro e w' ⟨rfl, rfl⟩)
              | (go_at_call 34; refine (dec_yes h _ hh HDC.out).mono ?_; rw [HVL.out]; rintro e w' ⟨rfl, rfl⟩)
              | fail)
        go_loop [93, 11] (fun i a => ∃ k : Nat, k ≤ M ∧ i = .int .i64 k ∧ a = .int .i64 ((nacc t.data.toList k : Nat) : Int) ∧ Hid (∀ j, 9 ≤ j → j < k → j < t.size → bt t j = 48)) (fun i _ => M - (intOf i).toNat)
        case atStart => exact ⟨0, by omega, rfl, rfl, Lib.hid (fun j hj hj2 => by omega)⟩
        case round =>
          obtain ⟨k, hk, rfl, rfl, hZ⟩ := hrel
          obtain ⟨A, hA⟩ : ∃ A, nacc t.data.toList k = A := ⟨_, rfl⟩
          have hA9 : A ≤ 999999999 := by rw [← hA]; have := nacc_le t.data.toList k; have := HNN.out; omega
          rw [hA]
          have HA := Lib.hid hA
          clear hA
          by_cases hkM : k < M
          · by_cases hkt : k < t.size
            · obtain ⟨d1, d2⟩ := HDG.out k hkt
              obtain ⟨d, hd⟩ : ∃ d : Int, bt t k = 48 + d := ⟨bt t k - 48, by omega⟩
              have u1 : IntKind.u8.wrap (bt t k - 48) = d := by rw [IntWalk.u8_in _ ⟨by omega, by omega⟩]; omega
              have u2 : IntKind.i64.wrap d = d := IntWalk.i64_in _ (by omega)
              have u3 : IntKind.i64.wrap ((A : Int) * 10) = (A : Int) * 10 := IntWalk.i64_in _ (by omega)
              by_cases h9 : k < 9
              · obtain ⟨A', hA'⟩ : ∃ A', nacc t.data.toList (k + 1) = A' := ⟨_, rfl⟩
                have hs1 := nacc_in t k h9 hkt d hd (by omega)
                rw [hA', HA.out] at hs1
                have u4 : IntKind.i64.wrap ((A : Int) * 10 + d) = (A' : Int) := by rw [IntWalk.i64_in _ (by omega)]; exact hs1.symm
                have HA' := Lib.hid hA'
                have h9' : (k : Int) < 9 := by omega
                clear hA' hs1 d1 d2 hd
                go_wp2
                go_round
                case rel => exact ⟨k + 1, by omega, by go_num, by rw [HA'.out], Lib.hid (fun j hj hj2 => by omega)⟩
                case measure => simp [intOf]; omega
              · have h9' : ¬ (k : Int) < 9 := by omega
                by_cases hd0 : bt t k = 48
                · obtain rfl : d = 0 := by omega
                  have HZ : Hid (∀ j, 9 ≤ j → j < k + 1 → j < t.size → bt t j = 48) := Lib.hid (fun j hj hj2 hj3 => by
                    by_cases e : j < k
                    · exact hZ.out j hj e hj3
                    · obtain rfl : j = k := by omega
                      exact hd0)
                  clear d1 d2 hd hd0
                  go_wp2
                  go_round
                  case rel => exact ⟨k + 1, by omega, by go_num, by rw [nacc_more _ _ (by omega), HA.out], HZ⟩
                  case measure => simp [intOf]; omega
                · exact absurd (HZZ.out k (by omega) hkt) hd0
            · have h9 : k < 9 := by have := HMX.out; omega
              obtain ⟨A', hA'⟩ : ∃ A', nacc t.data.toList (k + 1) = A' := ⟨_, rfl⟩
              have hs1 := nacc_out t k h9 hkt
              rw [hA', HA.out] at hs1
              have u3 : IntKind.i64.wrap ((A : Int) * 10) = (A : Int) * 10 := IntWalk.i64_in _ (by omega)
              have u4 : IntKind.i64.wrap ((A : Int) * 10 + 0) = (A' : Int) := by rw [IntWalk.i64_in _ (by omega)]; exact hs1.symm
              have u5 : (A : Int) * 10 = (A' : Int) := by omega
              have HA' := Lib.hid hA'
              have h9' : (k : Int) < 9 := by omega
              clear hA' hs1
              go_wp2
              go_round
              case rel => exact ⟨k + 1, by omega, by go_num, by rw [HA'.out], Lib.hid (fun j hj hj2 => by omega)⟩
              case measure => simp [intOf]; omega
          · obtain rfl : k = M := by omega
            have hAn : A = n := by rw [← HA.out, nacc_all _ _ hM9]; exact HNN.out
            subst hAn
            have v1 : IntKind.i64.wrap (-(W : Int)) = -(W : Int) := IntWalk.i64_in _ (by omega)
            by_cases hA0 : A = 0
            · subst hA0
              go_wp2
              refine bodyPost_ret (results_row_tmp1 rfl _ _ w.heap.size _ [.int .i64 (-(W : Int)), .int .i64 0] _ rfl (two_blk w _ _ _ _ _ n1) Tryz.underlying29 rfl sTimInfo) rfl ?_
              exact ⟨rfl, two_below _ _ _ _ _ _ _⟩
            · have hA1 : (0 : Int) < (A : Int) := by omega
              have v2 : IntKind.i64.wrap (-(W : Int) - 1) = -(W : Int) - 1 := IntWalk.i64_in _ (by omega)
              have v3 : IntKind.i64.wrap (1000000000 - (A : Int)) = 1000000000 - (A : Int) := IntWalk.i64_in _ (by omega)
              have hsec : secV true W A = -(W : Int) - 1 := by unfold secV; rw [if_pos rfl, if_neg hA0]
              have hns : nsV true A = 1000000000 - (A : Int) := by unfold nsV; rw [if_pos rfl, if_neg hA0]
              rw [hsec, hns]
              clear hA0
              go_wp2
              refine bodyPost_ret (results_row_tmp1 rfl _ _ w.heap.size _ [.int .i64 (-(W : Int) - 1), .int .i64 (1000000000 - (A : Int))] _ rfl (two_blk w _ _ _ _ _ n1) Tryz.underlying29 rfl sTimInfo) rfl ?_
              exact ⟨rfl, two_below _ _ _ _ _ _ _⟩
  · have hm3 : (bt u 0 == 45) = false := by rw [beq_eq_false_iff_ne]; exact hm2
    have hm4 : (0 : Int) < (u.size : Int) := by omega
    clear hm2 HMn
    go_enter Tryz.func35, Tryz.ntmps35
    go_wp2_with (first
          | (go_at_call 44; refine (specCutI _ _ _ (by assumption) (by decide)).mono ?_; rw [HC.out]; rintro e w' ⟨rfl, n1, rfl⟩)
          | fail)
    go_loop [33] (fun v => ∃ k : Nat, k ≤ h.size ∧ v = .int .i64 k) (fun v => h.size - (intOf v).toNat)
    case atStart => exact ⟨0, by omega, rfl⟩
    case round =>
      obtain ⟨k, hk, rfl⟩ := hrel
      by_cases hlt : k < h.size
      · by_cases hz : k = 0
        · subst hz
          go_wp2
          go_round
          case rel => exact ⟨1, by omega, by go_num⟩
          case measure => simp [intOf]; omega
        · have hz1 : ((k : Int) == 0) = false := by rw [beq_eq_false_iff_ne]; omega
          by_cases hc : bt h k = 43
          · have hc1 : (bt h k == 43) = true := by rw [hc]; rfl
            clear hc
            go_wp2
            go_round
            case rel => exact ⟨k + 1, by omega, by go_num⟩
            case measure => simp [intOf]; omega
          · have hc1 : (bt h k == 43) = false := by rw [beq_eq_false_iff_ne]; exact hc
            clear hc
            go_wp2
            go_round
            case rel => exact ⟨k + 1, by omega, by go_num⟩
            case measure => simp [intOf]; omega
      · obtain rfl : k = h.size := by omega
        go_wp2_with (first
              | (go_at_call 44; refine (specCutI _ _ _ (by assumption) (by decide)).mono ?_; rw [HC.out]; rintro e w' ⟨rfl, n1, rfl⟩)
              | (go_at_call 56; refine (digs_b _ _ (by assumption)).mono ?_; (first | rw [HH.out] | rw [HT.out]); rintro e w' ⟨rfl, rfl⟩)
              | (go_at_call 34; refine (dec_yes h _ hh HDC.out).mono ?_; rw [HVL.out]; rintro e w' ⟨rfl, rfl⟩)
              | fail)
        go_loop [93, 11] (fun i a => ∃ k : Nat, k ≤ M ∧ i = .int .i64 k ∧ a = .int .i64 ((nacc t.data.toList k : Nat) : Int) ∧ Hid (∀ j, 9 ≤ j → j < k → j < t.size → bt t j = 48)) (fun i _ => M - (intOf i).toNat)
        case atStart => exact ⟨0, by omega, rfl, rfl, Lib.hid (fun j hj hj2 => by omega)⟩
        case round =>
          obtain ⟨k, hk, rfl, rfl, hZ⟩ := hrel
          obtain ⟨A, hA⟩ : ∃ A, nacc t.data.toList k = A := ⟨_, rfl⟩
          have hA9 : A ≤ 999999999 := by rw [← hA]; have := nacc_le t.data.toList k; have := HNN.out; omega
          rw [hA]
          have HA := Lib.hid hA
          clear hA
          by_cases hkM : k < M
          · by_cases hkt : k < t.size
            · obtain ⟨d1, d2⟩ := HDG.out k hkt
              obtain ⟨d, hd⟩ : ∃ d : Int, bt t k = 48 + d := ⟨bt t k - 48, by omega⟩
              have u1 : IntKind.u8.wrap (bt t k - 48) = d := by rw [IntWalk.u8_in _ ⟨by omega, by omega⟩]; omega
              have u2 : IntKind.i64.wrap d = d := IntWalk.i64_in _ (by omega)
              have u3 : IntKind.i64.wrap ((A : Int) * 10) = (A : Int) * 10 := IntWalk.i64_in _ (by omega)
              by_cases h9 : k < 9
              · obtain ⟨A', hA'⟩ : ∃ A', nacc t.data.toList (k + 1) = A' := ⟨_, rfl⟩
                have hs1 := nacc_in t k h9 hkt d hd (by omega)
                rw [hA', HA.out] at hs1
                have u4 : IntKind.i64.wrap ((A : Int) * 10 + d) = (A' : Int) := by rw [IntWalk.i64_in _ (by omega)]; exact hs1.symm
                have HA' := Lib.hid hA'
                have h9' : (k : Int) < 9 := by omega
                clear hA' hs1 d1 d2 hd
                go_wp2
                go_round
                case rel => exact ⟨k + 1, by omega, by go_num, by rw [HA'.out], Lib.hid (fun j hj hj2 => by omega)⟩
                case measure => simp [intOf]; omega
              · have h9' : ¬ (k : Int) < 9 := by omega
                by_cases hd0 : bt t k = 48
                · obtain rfl : d = 0 := by omega
                  have HZ : Hid (∀ j, 9 ≤ j → j < k + 1 → j < t.size → bt t j = 48) := Lib.hid (fun j hj hj2 hj3 => by
                    by_cases e : j < k
                    · exact hZ.out j hj e hj3
                    · obtain rfl : j = k := by omega
                      exact hd0)
                  clear d1 d2 hd hd0
                  go_wp2
                  go_round
                  case rel => exact ⟨k + 1, by omega, by go_num, by rw [nacc_more _ _ (by omega), HA.out], HZ⟩
                  case measure => simp [intOf]; omega
                · exact absurd (HZZ.out k (by omega) hkt) hd0
            · have h9 : k < 9 := by have := HMX.out; omega
              obtain ⟨A', hA'⟩ : ∃ A', nacc t.data.toList (k + 1) = A' := ⟨_, rfl⟩
              have hs1 := nacc_out t k h9 hkt
              rw [hA', HA.out] at hs1
              have u3 : IntKind.i64.wrap ((A : Int) * 10) = (A : Int) * 10 := IntWalk.i64_in _ (by omega)
              have u4 : IntKind.i64.wrap ((A : Int) * 10 + 0) = (A' : Int) := by rw [IntWalk.i64_in _ (by omega)]; exact hs1.symm
              have u5 : (A : Int) * 10 = (A' : Int) := by omega
              have HA' := Lib.hid hA'
              have h9' : (k : Int) < 9 := by omega
              clear hA' hs1
              go_wp2
              go_round
              case rel => exact ⟨k + 1, by omega, by go_num, by rw [HA'.out], Lib.hid (fun j hj hj2 => by omega)⟩
              case measure => simp [intOf]; omega
          · obtain rfl : k = M := by omega
            have hAn : A = n := by rw [← HA.out, nacc_all _ _ hM9]; exact HNN.out
            subst hAn
            go_wp2
            refine bodyPost_ret (results_row_tmp1 rfl _ _ w.heap.size _ [.int .i64 W, .int .i64 A] _ rfl (two_blk w _ _ _ _ _ n1) Tryz.underlying29 rfl sTimInfo) rfl ?_
            exact ⟨rfl, two_below _ _ _ _ _ _ _⟩

set_option maxRecDepth 20000 in
set_option maxHeartbeats 3200000 in
theorem sTim_fine {c b : Bool} (s u h t : ByteArray) (w : World) (hs : s.size ≤ 2147483647) (hu : u.size ≤ s.size) (hhu : h.size ≤ u.size) (htu : t.size ≤ u.size) (HC : Hid (cutI 46 u = .tuple #[.string h, .string t, .bool c])) (HMn : Hid (Minus s u b)) (hp : bt h 0 ≠ 43) (hdc : DecOk h) (h18 : h.size ≤ 18) (hc : c = true) (hz2 : ¬ t.size = 0) (hd2 : DigOk t) (W n : Nat) (hWW : vl 0 h.data.toList = W) (hn : nano t.data.toList = n) (hdig : allDig t.data.toList) (hz : ¬ Zeros t) :
    Calls Tryz.prog 35 #[.string s] w (STim 0 0 0 w) := by
  have hu2 : u.size ≤ 4611686018427387904 := by omega
  have hh : h.size ≤ 4611686018427387904 := by omega
  have ht : t.size ≤ 4611686018427387904 := by omega
  have hbs := get_bt s
  have hbh := get_bt h
  have hbt := get_bt t
  have hc0 : (bt h 0 == 43) = false := by rw [beq_eq_false_iff_ne]; exact hp
  clear hp
  obtain ⟨e1, e2⟩ := empty_no (Nat.ne_of_gt hdc.1)
  have HDC := Lib.hid hdc
  have HVL := Lib.hid hWW
  have HH : Hid (digB h = true) := Lib.hid (digB_yes ⟨hdc.1, hdc.2.2.1⟩)
  obtain ⟨e3, e4⟩ := empty_no hz2
  have HT : Hid (digB t = true) := Lib.hid (digB_yes hd2)
  clear hz2 hd2
  clear hdc hWW
  subst hc
  have h18' : ¬ (18 : Int) < (h.size : Int) := by omega
  have hn9 : n ≤ 999999999 := by rw [← hn]; have := nano_lt (l := t.data.toList) hdig; omega
  have HNN := Lib.hid hn
  have HDG : Hid (∀ j, j < t.size → 48 ≤ bt t j ∧ bt t j ≤ 57) := Lib.hid (fun j hj => allDig_bt t hdig j hj)
  obtain ⟨M, hM1, hM9, hMt, hMx⟩ : ∃ M : Nat, max (9 : Int) (t.size : Int) = (M : Int) ∧ 9 ≤ M ∧ t.size ≤ M ∧ (M = 9 ∨ M = t.size) := ⟨max 9 t.size, by omega, by omega, by omega, by omega⟩
  have HMX := Lib.hid hMx
  have hW63 : W ≤ 9223372036854775807 := by rw [← HVL.out]; exact HDC.out.2.2.2
  clear hn hMx hdig
  have HZZ := Lib.hid hz
  clear hz
  rcases HMn.out with ⟨rfl, hm1, hm2, rfl⟩ | ⟨rfl, hm1, hm2, rfl⟩
  · have hm3 : (bt s 0 == 45) = true := by rw [hm2]; rfl
    have hm4 : (0 : Int) < (s.size : Int) := by omega
    have hm5 : (1 : Int) ≤ (s.size : Int) := by omega
    clear hm2 HMn
    go_enter Tryz.func35, Tryz.ntmps35
    go_wp2_with (first
          | (go_at_call 44; refine (specCutI _ _ _ (by assumption) (by decide)).mono ?_; rw [HC.out]; rintro e w' ⟨rfl, n1, rfl⟩)
          | fail)
    go_loop [33] (fun v => ∃ k : Nat, k ≤ h.size ∧ v = .int .i64 k) (fun v => h.size - (intOf v).toNat)
    case atStart => exact ⟨0, by omega, rfl⟩
    case round =>
      obtain ⟨k, hk, rfl⟩ := hrel
      by_cases hlt : k < h.size
      · by_cases hz : k = 0
        · subst hz
          go_wp2
          go_round
          case rel => exact ⟨1, by omega, by go_num⟩
          case measure => simp [intOf]; omega
        · have hz1 : ((k : Int) == 0) = false := by rw [beq_eq_false_iff_ne]; omega
          by_cases hc : bt h k = 43
          · have hc1 : (bt h k == 43) = true := by rw [hc]; rfl
            clear hc
            go_wp2
            go_round
            case rel => exact ⟨k + 1, by omega, by go_num⟩
            case measure => simp [intOf]; omega
          · have hc1 : (bt h k == 43) = false := by rw [beq_eq_false_iff_ne]; exact hc
            clear hc
            go_wp2
            go_round
            case rel => exact ⟨k + 1, by omega, by go_num⟩
            case measure => simp [intOf]; omega
      · obtain rfl : k = h.size := by omega
        go_wp2_with (first
              | (go_at_call 44; refine (specCutI _ _ _ (by assumption) (by decide)).mono ?_; rw [HC.out]; rintro e w' ⟨rfl, n1, rfl⟩)
              | (go_at_call 56; refine (digs_b _ _ (by assumption)).mono ?_; (first | rw [HH.out] | rw [HT.out]); rintro e w' ⟨rfl, rfl⟩)
              | (go_at_call 34; refine (dec_yes h _ hh HDC.out).mono ?_; rw [HVL.out]; rintro e w' ⟨rfl, rfl⟩)
              | fail)
        go_loop [93, 11] (fun i a => ∃ k : Nat, k ≤ M ∧ i = .int .i64 k ∧ a = .int .i64 ((nacc t.data.toList k : Nat) : Int) ∧ Hid (∀ j, 9 ≤ j → j < k → j < t.size → bt t j = 48)) (fun i _ => M - (intOf i).toNat)
        case atStart => exact ⟨0, by omega, rfl, rfl, Lib.hid (fun j hj hj2 => by omega)⟩
        case round =>
          obtain ⟨k, hk, rfl, rfl, hZ⟩ := hrel
          obtain ⟨A, hA⟩ : ∃ A, nacc t.data.toList k = A := ⟨_, rfl⟩
          have hA9 : A ≤ 999999999 := by rw [← hA]; have := nacc_le t.data.toList k; have := HNN.out; omega
          rw [hA]
          have HA := Lib.hid hA
          clear hA
          by_cases hkM : k < M
          · by_cases hkt : k < t.size
            · obtain ⟨d1, d2⟩ := HDG.out k hkt
              obtain ⟨d, hd⟩ : ∃ d : Int, bt t k = 48 + d := ⟨bt t k - 48, by omega⟩
              have u1 : IntKind.u8.wrap (bt t k - 48) = d := by rw [IntWalk.u8_in _ ⟨by omega, by omega⟩]; omega
              have u2 : IntKind.i64.wrap d = d := IntWalk.i64_in _ (by omega)
              have u3 : IntKind.i64.wrap ((A : Int) * 10) = (A : Int) * 10 := IntWalk.i64_in _ (by omega)
              by_cases h9 : k < 9
              · obtain ⟨A', hA'⟩ : ∃ A', nacc t.data.toList (k + 1) = A' := ⟨_, rfl⟩
                have hs1 := nacc_in t k h9 hkt d hd (by omega)
                rw [hA', HA.out] at hs1
                have u4 : IntKind.i64.wrap ((A : Int) * 10 + d) = (A' : Int) := by rw [IntWalk.i64_in _ (by omega)]; exact hs1.symm
                have HA' := Lib.hid hA'
                have h9' : (k : Int) < 9 := by omega
                clear hA' hs1 d1 d2 hd
                go_wp2
                go_round
                case rel => exact ⟨k + 1, by omega, by go_num, by rw [HA'.out], Lib.hid (fun j hj hj2 => by omega)⟩
                case measure => simp [intOf]; omega
              · have h9' : ¬ (k : Int) < 9 := by omega
                by_cases hd0 : bt t k = 48
                · obtain rfl : d = 0 := by omega
                  have HZ : Hid (∀ j, 9 ≤ j → j < k + 1 → j < t.size → bt t j = 48) := Lib.hid (fun j hj hj2 hj3 => by
                    by_cases e : j < k
                    · exact hZ.out j hj e hj3
                    · obtain rfl : j = k := by omega
                      exact hd0)
                  clear d1 d2 hd hd0
                  go_wp2
                  go_round
                  case rel => exact ⟨k + 1, by omega, by go_num, by rw [nacc_more _ _ (by omega), HA.out], HZ⟩
                  case measure => simp [intOf]; omega
                · have hdd : (d == 0) = false := by rw [beq_eq_false_iff_ne]; omega
                  clear hd0 d1 d2 hd
                  go_wp2
                  refine bodyPost_ret (results_row_tmp1 rfl _ _ w.heap.size _ [.int .i64 0, .int .i64 0] _ rfl (two_blk w _ _ _ _ _ n1) Tryz.underlying29 rfl sTimInfo) rfl ?_
                  exact ⟨rfl, two_below _ _ _ _ _ _ _⟩
            · have h9 : k < 9 := by have := HMX.out; omega
              obtain ⟨A', hA'⟩ : ∃ A', nacc t.data.toList (k + 1) = A' := ⟨_, rfl⟩
              have hs1 := nacc_out t k h9 hkt
              rw [hA', HA.out] at hs1
              have u3 : IntKind.i64.wrap ((A : Int) * 10) = (A : Int) * 10 := IntWalk.i64_in _ (by omega)
              have u4 : IntKind.i64.wrap ((A : Int) * 10 + 0) = (A' : Int) := by rw [IntWalk.i64_in _ (by omega)]; exact hs1.symm
              have u5 : (A : Int) * 10 = (A' : Int) := by omega
              have HA' := Lib.hid hA'
              have h9' : (k : Int) < 9 := by omega
              clear hA' hs1
              go_wp2
              go_round
              case rel => exact ⟨k + 1, by omega, by go_num, by rw [HA'.out], Lib.hid (fun j hj hj2 => by omega)⟩
              case measure => simp [intOf]; omega
          · obtain rfl : k = M := by omega
            have hAn : A = n := by rw [← HA.out, nacc_all _ _ hM9]; exact HNN.out
            subst hAn
            exact absurd (fun j hj hj2 => hZ.out j hj (by omega) hj2) HZZ.out
  · have hm3 : (bt u 0 == 45) = false := by rw [beq_eq_false_iff_ne]; exact hm2
    have hm4 : (0 : Int) < (u.size : Int) := by omega
    clear hm2 HMn
    go_enter Tryz.func35, Tryz.ntmps35
    go_wp2_with (first
          | (go_at_call 44; refine (specCutI _ _ _ (by assumption) (by decide)).mono ?_; rw [HC.out]; rintro e w' ⟨rfl, n1, rfl⟩)
          | fail)
    go_loop [33] (fun v => ∃ k : Nat, k ≤ h.size ∧ v = .int .i64 k) (fun v => h.size - (intOf v).toNat)
    case atStart => exact ⟨0, by omega, rfl⟩
    case round =>
      obtain ⟨k, hk, rfl⟩ := hrel
      by_cases hlt : k < h.size
      · by_cases hz : k = 0
        · subst hz
          go_wp2
          go_round
          case rel => exact ⟨1, by omega, by go_num⟩
          case measure => simp [intOf]; omega
        · have hz1 : ((k : Int) == 0) = false := by rw [beq_eq_false_iff_ne]; omega
          by_cases hc : bt h k = 43
          · have hc1 : (bt h k == 43) = true := by rw [hc]; rfl
            clear hc
            go_wp2
            go_round
            case rel => exact ⟨k + 1, by omega, by go_num⟩
            case measure => simp [intOf]; omega
          · have hc1 : (bt h k == 43) = false := by rw [beq_eq_false_iff_ne]; exact hc
            clear hc
            go_wp2
            go_round
            case rel => exact ⟨k + 1, by omega, by go_num⟩
            case measure => simp [intOf]; omega
      · obtain rfl : k = h.size := by omega
        go_wp2_with (first
              | (go_at_call 44; refine (specCutI _ _ _ (by assumption) (by decide)).mono ?_; rw [HC.out]; rintro e w' ⟨rfl, n1, rfl⟩)
              | (go_at_call 56; refine (digs_b _ _ (by assumption)).mono ?_; (first | rw [HH.out] | rw [HT.out]); rintro e w' ⟨rfl, rfl⟩)
              | (go_at_call 34; refine (dec_yes h _ hh HDC.out).mono ?_; rw [HVL.out]; rintro e w' ⟨rfl, rfl⟩)
              | fail)
        go_loop [93, 11] (fun i a => ∃ k : Nat, k ≤ M ∧ i = .int .i64 k ∧ a = .int .i64 ((nacc t.data.toList k : Nat) : Int) ∧ Hid (∀ j, 9 ≤ j → j < k → j < t.size → bt t j = 48)) (fun i _ => M - (intOf i).toNat)
        case atStart => exact ⟨0, by omega, rfl, rfl, Lib.hid (fun j hj hj2 => by omega)⟩
        case round =>
          obtain ⟨k, hk, rfl, rfl, hZ⟩ := hrel
          obtain ⟨A, hA⟩ : ∃ A, nacc t.data.toList k = A := ⟨_, rfl⟩
          have hA9 : A ≤ 999999999 := by rw [← hA]; have := nacc_le t.data.toList k; have := HNN.out; omega
          rw [hA]
          have HA := Lib.hid hA
          clear hA
          by_cases hkM : k < M
          · by_cases hkt : k < t.size
            · obtain ⟨d1, d2⟩ := HDG.out k hkt
              obtain ⟨d, hd⟩ : ∃ d : Int, bt t k = 48 + d := ⟨bt t k - 48, by omega⟩
              have u1 : IntKind.u8.wrap (bt t k - 48) = d := by rw [IntWalk.u8_in _ ⟨by omega, by omega⟩]; omega
              have u2 : IntKind.i64.wrap d = d := IntWalk.i64_in _ (by omega)
              have u3 : IntKind.i64.wrap ((A : Int) * 10) = (A : Int) * 10 := IntWalk.i64_in _ (by omega)
              by_cases h9 : k < 9
              · obtain ⟨A', hA'⟩ : ∃ A', nacc t.data.toList (k + 1) = A' := ⟨_, rfl⟩
                have hs1 := nacc_in t k h9 hkt d hd (by omega)
                rw [hA', HA.out] at hs1
                have u4 : IntKind.i64.wrap ((A : Int) * 10 + d) = (A' : Int) := by rw [IntWalk.i64_in _ (by omega)]; exact hs1.symm
                have HA' := Lib.hid hA'
                have h9' : (k : Int) < 9 := by omega
                clear hA' hs1 d1 d2 hd
                go_wp2
                go_round
                case rel => exact ⟨k + 1, by omega, by go_num, by rw [HA'.out], Lib.hid (fun j hj hj2 => by omega)⟩
                case measure => simp [intOf]; omega
              · have h9' : ¬ (k : Int) < 9 := by omega
                by_cases hd0 : bt t k = 48
                · obtain rfl : d = 0 := by omega
                  have HZ : Hid (∀ j, 9 ≤ j → j < k + 1 → j < t.size → bt t j = 48) := Lib.hid (fun j hj hj2 hj3 => by
                    by_cases e : j < k
                    · exact hZ.out j hj e hj3
                    · obtain rfl : j = k := by omega
                      exact hd0)
                  clear d1 d2 hd hd0
                  go_wp2
                  go_round
                  case rel => exact ⟨k + 1, by omega, by go_num, by rw [nacc_more _ _ (by omega), HA.out], HZ⟩
                  case measure => simp [intOf]; omega
                · have hdd : (d == 0) = false := by rw [beq_eq_false_iff_ne]; omega
                  clear hd0 d1 d2 hd
                  go_wp2
                  refine bodyPost_ret (results_row_tmp1 rfl _ _ w.heap.size _ [.int .i64 0, .int .i64 0] _ rfl (two_blk w _ _ _ _ _ n1) Tryz.underlying29 rfl sTimInfo) rfl ?_
                  exact ⟨rfl, two_below _ _ _ _ _ _ _⟩
            · have h9 : k < 9 := by have := HMX.out; omega
              obtain ⟨A', hA'⟩ : ∃ A', nacc t.data.toList (k + 1) = A' := ⟨_, rfl⟩
              have hs1 := nacc_out t k h9 hkt
              rw [hA', HA.out] at hs1
              have u3 : IntKind.i64.wrap ((A : Int) * 10) = (A : Int) * 10 := IntWalk.i64_in _ (by omega)
              have u4 : IntKind.i64.wrap ((A : Int) * 10 + 0) = (A' : Int) := by rw [IntWalk.i64_in _ (by omega)]; exact hs1.symm
              have u5 : (A : Int) * 10 = (A' : Int) := by omega
              have HA' := Lib.hid hA'
              have h9' : (k : Int) < 9 := by omega
              clear hA' hs1
              go_wp2
              go_round
              case rel => exact ⟨k + 1, by omega, by go_num, by rw [HA'.out], Lib.hid (fun j hj hj2 => by omega)⟩
              case measure => simp [intOf]; omega
          · obtain rfl : k = M := by omega
            have hAn : A = n := by rw [← HA.out, nacc_all _ _ hM9]; exact HNN.out
            subst hAn
            exact absurd (fun j hj hj2 => hZ.out j hj (by omega) hj2) HZZ.out
end Go.Proofs.YtepeehjajhehfaaGreatDoor
