/- spec.ReadTime, more cases (written by gen_tims.py). -/
import Derived.Test.YtlchagphjmfooaaDoorTimS
namespace Go.Proofs.YtlchagphjmfooaaDoor
open Go.RowKit Go.PlainAid
set_option linter.unusedVariables false

set_option maxRecDepth 20000 in
set_option maxHeartbeats 800000 in
theorem sTim_empty (s : ByteArray) (w : World) (hs : s.size = 0) (HC : Hid (cutI 46 s = .tuple #[.string s, .string ⟨#[]⟩, .bool false])) :
    Calls Tryd.prog 18 #[.string s] w (STim 0 0 0 w) := by
  have hu2 : s.size ≤ 4611686018427387904 := by omega
  obtain ⟨e1, e2⟩ := empty_yes hs
  go_enter Tryd.func18, Tryd.ntmps18
  go_wp2_with (first
      | (go_at_call 36; refine (specCutI _ _ _ (by assumption) (by decide)).mono ?_; rw [HC.out]; rintro e w' ⟨rfl, n1, rfl⟩)
      | fail)
  go_loop [33] (fun v => v = .int .i64 0) (fun _ => 0)
  case atStart => rfl
  case round =>
    obtain rfl := hrel
    go_wp2_with fail
    refine bodyPost_ret (results_row_tmp1 rfl _ _ w.heap.size _ [.int .i64 0, .int .i64 0] _ rfl (two_blk w _ _ _ _ _ n1) Tryd.underlying33 rfl sTimInfo) rfl ?_
    exact ⟨rfl, two_below _ _ _ _ _ _ _⟩

set_option maxRecDepth 20000 in
set_option maxHeartbeats 3200000 in
theorem sTim_none {c b : Bool} (s u h t : ByteArray) (w : World) (hs : s.size ≤ 2147483647) (hu : u.size ≤ s.size) (hhu : h.size ≤ u.size) (htu : t.size ≤ u.size) (HC : Hid (cutI 46 u = .tuple #[.string h, .string t, .bool c])) (HMn : Hid (Minus s u b)) (hp : bt h 0 ≠ 43) (hz : h.size = 0) (hz2 : t.size = 0) (hc : c = false) :
    Calls Tryd.prog 18 #[.string s] w (STim 0 0 0 w) := by
  have hu2 : u.size ≤ 4611686018427387904 := by omega
  have hh : h.size ≤ 4611686018427387904 := by omega
  have ht : t.size ≤ 4611686018427387904 := by omega
  have hbs := get_bt s
  have hbh := get_bt h
  have hbt := get_bt t
  have hc0 : (bt h 0 == 43) = false := by rw [beq_eq_false_iff_ne]; exact hp
  clear hp
  obtain ⟨e1, e2⟩ := empty_yes hz
  obtain ⟨e3, e4⟩ := empty_yes hz2
  clear hz2
  subst hc
  rcases HMn.out with ⟨rfl, hm1, hm2, rfl⟩ | ⟨rfl, hm1, hm2, rfl⟩
  · have hm3 : (bt s 0 == 45) = true := by rw [hm2]; rfl
    have hm4 : (0 : Int) < (s.size : Int) := by omega
    have hm5 : (1 : Int) ≤ (s.size : Int) := by omega
    clear hm2 HMn
    go_enter Tryd.func18, Tryd.ntmps18
    go_wp2_with (first
          | (go_at_call 36; refine (specCutI _ _ _ (by assumption) (by decide)).mono ?_; rw [HC.out]; rintro e w' ⟨rfl, n1, rfl⟩)
          | fail)
    go_loop [33] (fun v => v = .int .i64 0) (fun _ => 0)
    case atStart => rfl
    case round =>
      obtain rfl := hrel
      go_wp2_with (first
            | (go_at_call 36; refine (specCutI _ _ _ (by assumption) (by decide)).mono ?_; rw [HC.out]; rintro e w' ⟨rfl, n1, rfl⟩)
            | fail)
      refine bodyPost_ret (results_row_tmp1 rfl _ _ w.heap.size _ [.int .i64 0, .int .i64 0] _ rfl (two_blk w _ _ _ _ _ n1) Tryd.underlying33 rfl sTimInfo) rfl ?_
      exact ⟨rfl, two_below _ _ _ _ _ _ _⟩
  · have hm3 : (bt u 0 == 45) = false := by rw [beq_eq_false_iff_ne]; exact hm2
    have hm4 : (0 : Int) < (u.size : Int) := by omega
    clear hm2 HMn
    go_enter Tryd.func18, Tryd.ntmps18
    go_wp2_with (first
          | (go_at_call 36; refine (specCutI _ _ _ (by assumption) (by decide)).mono ?_; rw [HC.out]; rintro e w' ⟨rfl, n1, rfl⟩)
          | fail)
    go_loop [33] (fun v => v = .int .i64 0) (fun _ => 0)
    case atStart => rfl
    case round =>
      obtain rfl := hrel
      go_wp2_with (first
            | (go_at_call 36; refine (specCutI _ _ _ (by assumption) (by decide)).mono ?_; rw [HC.out]; rintro e w' ⟨rfl, n1, rfl⟩)
            | fail)
      refine bodyPost_ret (results_row_tmp1 rfl _ _ w.heap.size _ [.int .i64 0, .int .i64 0] _ rfl (two_blk w _ _ _ _ _ n1) Tryd.underlying33 rfl sTimInfo) rfl ?_
      exact ⟨rfl, two_below _ _ _ _ _ _ _⟩

set_option maxRecDepth 20000 in
set_option maxHeartbeats 3200000 in
theorem sTim_noWhole0 {c b : Bool} (s u h t : ByteArray) (w : World) (hs : s.size ≤ 2147483647) (hu : u.size ≤ s.size) (hhu : h.size ≤ u.size) (htu : t.size ≤ u.size) (HC : Hid (cutI 46 u = .tuple #[.string h, .string t, .bool c])) (HMn : Hid (Minus s u b)) (hp : bt h 0 ≠ 43) (hz : h.size = 0) (hc : c = true) (hz2 : t.size = 0) :
    Calls Tryd.prog 18 #[.string s] w (STim 0 0 0 w) := by
  have hu2 : u.size ≤ 4611686018427387904 := by omega
  have hh : h.size ≤ 4611686018427387904 := by omega
  have ht : t.size ≤ 4611686018427387904 := by omega
  have hbs := get_bt s
  have hbh := get_bt h
  have hbt := get_bt t
  have hc0 : (bt h 0 == 43) = false := by rw [beq_eq_false_iff_ne]; exact hp
  clear hp
  obtain ⟨e1, e2⟩ := empty_yes hz
  have HDC : Hid (¬ DecOk h) := Lib.hid (fun hx => by have := hx.1; omega)
  have HH : Hid (digB h = digB h) := Lib.hid rfl
  obtain ⟨e3, e4⟩ := empty_yes hz2
  have HT : Hid (digB h = digB h) := Lib.hid rfl
  clear hz2
  subst hc
  rcases HMn.out with ⟨rfl, hm1, hm2, rfl⟩ | ⟨rfl, hm1, hm2, rfl⟩
  · have hm3 : (bt s 0 == 45) = true := by rw [hm2]; rfl
    have hm4 : (0 : Int) < (s.size : Int) := by omega
    have hm5 : (1 : Int) ≤ (s.size : Int) := by omega
    clear hm2 HMn
    go_enter Tryd.func18, Tryd.ntmps18
    go_wp2_with (first
          | (go_at_call 36; refine (specCutI _ _ _ (by assumption) (by decide)).mono ?_; rw [HC.out]; rintro e w' ⟨rfl, n1, rfl⟩)
          | fail)
    go_loop [33] (fun v => v = .int .i64 0) (fun _ => 0)
    case atStart => rfl
    case round =>
      obtain rfl := hrel
      go_wp2_with (first
            | (go_at_call 36; refine (specCutI _ _ _ (by assumption) (by decide)).mono ?_; rw [HC.out]; rintro e w' ⟨rfl, n1, rfl⟩)
            | (go_at_call 38; refine (digs_b _ _ (by assumption)).mono ?_; (first | rw [HH.out] | rw [HT.out]); rintro e w' ⟨rfl, rfl⟩)
            | (go_at_call 37; refine (dec_no h _ hh HDC.out).mono ?_; rintro e w' ⟨rfl, rfl⟩)
            | fail)
      refine bodyPost_ret (results_row_tmp1 rfl _ _ w.heap.size _ [.int .i64 0, .int .i64 0] _ rfl (two_blk w _ _ _ _ _ n1) Tryd.underlying33 rfl sTimInfo) rfl ?_
      exact ⟨rfl, two_below _ _ _ _ _ _ _⟩
  · have hm3 : (bt u 0 == 45) = false := by rw [beq_eq_false_iff_ne]; exact hm2
    have hm4 : (0 : Int) < (u.size : Int) := by omega
    clear hm2 HMn
    go_enter Tryd.func18, Tryd.ntmps18
    go_wp2_with (first
          | (go_at_call 36; refine (specCutI _ _ _ (by assumption) (by decide)).mono ?_; rw [HC.out]; rintro e w' ⟨rfl, n1, rfl⟩)
          | fail)
    go_loop [33] (fun v => v = .int .i64 0) (fun _ => 0)
    case atStart => rfl
    case round =>
      obtain rfl := hrel
      go_wp2_with (first
            | (go_at_call 36; refine (specCutI _ _ _ (by assumption) (by decide)).mono ?_; rw [HC.out]; rintro e w' ⟨rfl, n1, rfl⟩)
            | (go_at_call 38; refine (digs_b _ _ (by assumption)).mono ?_; (first | rw [HH.out] | rw [HT.out]); rintro e w' ⟨rfl, rfl⟩)
            | (go_at_call 37; refine (dec_no h _ hh HDC.out).mono ?_; rintro e w' ⟨rfl, rfl⟩)
            | fail)
      refine bodyPost_ret (results_row_tmp1 rfl _ _ w.heap.size _ [.int .i64 0, .int .i64 0] _ rfl (two_blk w _ _ _ _ _ n1) Tryd.underlying33 rfl sTimInfo) rfl ?_
      exact ⟨rfl, two_below _ _ _ _ _ _ _⟩

set_option maxRecDepth 20000 in
set_option maxHeartbeats 3200000 in
theorem sTim_great0 {c b : Bool} (s u h t : ByteArray) (w : World) (hs : s.size ≤ 2147483647) (hu : u.size ≤ s.size) (hhu : h.size ≤ u.size) (htu : t.size ≤ u.size) (HC : Hid (cutI 46 u = .tuple #[.string h, .string t, .bool c])) (HMn : Hid (Minus s u b)) (hp : bt h 0 ≠ 43) (hd : DigOk h) (hdc : ¬ DecOk h) (hz2 : t.size = 0) :
    Calls Tryd.prog 18 #[.string s] w (STim 0 0 0 w) := by
  have hu2 : u.size ≤ 4611686018427387904 := by omega
  have hh : h.size ≤ 4611686018427387904 := by omega
  have ht : t.size ≤ 4611686018427387904 := by omega
  have hbs := get_bt s
  have hbh := get_bt h
  have hbt := get_bt t
  have hc0 : (bt h 0 == 43) = false := by rw [beq_eq_false_iff_ne]; exact hp
  clear hp
  obtain ⟨e1, e2⟩ := empty_no (Nat.ne_of_gt hd.1)
  have HDC := Lib.hid hdc
  have HH : Hid (digB h = true) := Lib.hid (digB_yes hd)
  obtain ⟨e3, e4⟩ := empty_yes hz2
  have HT : Hid (digB h = digB h) := Lib.hid rfl
  clear hz2
  clear hd hdc
  rcases HMn.out with ⟨rfl, hm1, hm2, rfl⟩ | ⟨rfl, hm1, hm2, rfl⟩
  · have hm3 : (bt s 0 == 45) = true := by rw [hm2]; rfl
    have hm4 : (0 : Int) < (s.size : Int) := by omega
    have hm5 : (1 : Int) ≤ (s.size : Int) := by omega
    clear hm2 HMn
    go_enter Tryd.func18, Tryd.ntmps18
    go_wp2_with (first
          | (go_at_call 36; refine (specCutI _ _ _ (by assumption) (by decide)).mono ?_; rw [HC.out]; rintro e w' ⟨rfl, n1, rfl⟩)
          | fail)
    go_loop [33] (fun v => ∃ k : Nat, k ≤ h.size ∧ v = .int .i64 k) (fun v => h.size - (intOf v).toNat)
    case atStart => exact ⟨0, by omega, rfl⟩
    case round =>
      obtain ⟨k, hk, rfl⟩ := hrel
      by_cases hlt : k < h.size
      · by_cases hz : k = 0
        · subst hz
          go_wp2
          go_round
          case rel => exact ⟨1, by omega, by go_num⟩
          case measure => simp [intOf]; omega
        · have hz1 : ((k : Int) == 0) = false := by rw [beq_eq_false_iff_ne]; omega
          by_cases hc : bt h k = 43
          · have hc1 : (bt h k == 43) = true := by rw [hc]; rfl
            clear hc
            go_wp2
            go_round
            case rel => exact ⟨k + 1, by omega, by go_num⟩
            case measure => simp [intOf]; omega
          · have hc1 : (bt h k == 43) = false := by rw [beq_eq_false_iff_ne]; exact hc
            clear hc
            go_wp2
            go_round
            case rel => exact ⟨k + 1, by omega, by go_num⟩
            case measure => simp [intOf]; omega
      · obtain rfl : k = h.size := by omega
        go_wp2_with (first
              | (go_at_call 36; refine (specCutI _ _ _ (by assumption) (by decide)).mono ?_; rw [HC.out]; rintro e w' ⟨rfl, n1, rfl⟩)
              | (go_at_call 38; refine (digs_b _ _ (by assumption)).mono ?_; (first | rw [HH.out] | rw [HT.out]); rintro e w' ⟨rfl, rfl⟩)
              | (go_at_call 37; refine (dec_no h _ hh HDC.out).mono ?_; rintro e w' ⟨rfl, rfl⟩)
              | fail)
        refine bodyPost_ret (results_row_tmp1 rfl _ _ w.heap.size _ [.int .i64 0, .int .i64 0] _ rfl (two_blk w _ _ _ _ _ n1) Tryd.underlying33 rfl sTimInfo) rfl ?_
        exact ⟨rfl, two_below _ _ _ _ _ _ _⟩
  · have hm3 : (bt u 0 == 45) = false := by rw [beq_eq_false_iff_ne]; exact hm2
    have hm4 : (0 : Int) < (u.size : Int) := by omega
    clear hm2 HMn
    go_enter Tryd.func18, Tryd.ntmps18
    go_wp2_with (first
          | (go_at_call 36; refine (specCutI _ _ _ (by assumption) (by decide)).mono ?_; rw [HC.out]; rintro e w' ⟨rfl, n1, rfl⟩)
          | fail)
    go_loop [33] (fun v => ∃ k : Nat, k ≤ h.size ∧ v = .int .i64 k) (fun v => h.size - (intOf v).toNat)
    case atStart => exact ⟨0, by omega, rfl⟩
    case round =>
      obtain ⟨k, hk, rfl⟩ := hrel
      by_cases hlt : k < h.size
      · by_cases hz : k = 0
        · subst hz
          go_wp2
          go_round
          case rel => exact ⟨1, by omega, by go_num⟩
          case measure => simp [intOf]; omega
        · have hz1 : ((k : Int) == 0) = false := by rw [beq_eq_false_iff_ne]; omega
          by_cases hc : bt h k = 43
          · have hc1 : (bt h k == 43) = true := by rw [hc]; rfl
            clear hc
            go_wp2
            go_round
            case rel => exact ⟨k + 1, by omega, by go_num⟩
            case measure => simp [intOf]; omega
          · have hc1 : (bt h k == 43) = false := by rw [beq_eq_false_iff_ne]; exact hc
            clear hc
            go_wp2
            go_round
            case rel => exact ⟨k + 1, by omega, by go_num⟩
            case measure => simp [intOf]; omega
      · obtain rfl : k = h.size := by omega
        go_wp2_with (first
              | (go_at_call 36; refine (specCutI _ _ _ (by assumption) (by decide)).mono ?_; rw [HC.out]; rintro e w' ⟨rfl, n1, rfl⟩)
              | (go_at_call 38; refine (digs_b _ _ (by assumption)).mono ?_; (first | rw [HH.out] | rw [HT.out]); rintro e w' ⟨rfl, rfl⟩)
              | (go_at_call 37; refine (dec_no h _ hh HDC.out).mono ?_; rintro e w' ⟨rfl, rfl⟩)
              | fail)
        refine bodyPost_ret (results_row_tmp1 rfl _ _ w.heap.size _ [.int .i64 0, .int .i64 0] _ rfl (two_blk w _ _ _ _ _ n1) Tryd.underlying33 rfl sTimInfo) rfl ?_
        exact ⟨rfl, two_below _ _ _ _ _ _ _⟩

set_option maxRecDepth 20000 in
set_option maxHeartbeats 3200000 in
theorem sTim_long0 {c b : Bool} (s u h t : ByteArray) (w : World) (hs : s.size ≤ 2147483647) (hu : u.size ≤ s.size) (hhu : h.size ≤ u.size) (htu : t.size ≤ u.size) (HC : Hid (cutI 46 u = .tuple #[.string h, .string t, .bool c])) (HMn : Hid (Minus s u b)) (hp : bt h 0 ≠ 43) (hdc : DecOk h) (h18 : 18 < h.size) (hz2 : t.size = 0) :
    Calls Tryd.prog 18 #[.string s] w (STim 0 0 0 w) := by
  have hu2 : u.size ≤ 4611686018427387904 := by omega
  have hh : h.size ≤ 4611686018427387904 := by omega
  have ht : t.size ≤ 4611686018427387904 := by omega
  have hbs := get_bt s
  have hbh := get_bt h
  have hbt := get_bt t
  have hc0 : (bt h 0 == 43) = false := by rw [beq_eq_false_iff_ne]; exact hp
  clear hp
  obtain ⟨e1, e2⟩ := empty_no (Nat.ne_of_gt hdc.1)
  have HDC := Lib.hid hdc
  obtain ⟨W, hW⟩ : ∃ W, vl 0 h.data.toList = W := ⟨_, rfl⟩
  have HVL := Lib.hid hW
  have HH : Hid (digB h = true) := Lib.hid (digB_yes ⟨hdc.1, hdc.2.2.1⟩)
  obtain ⟨e3, e4⟩ := empty_yes hz2
  have HT : Hid (digB h = digB h) := Lib.hid rfl
  clear hz2
  clear hdc hW
  rcases HMn.out with ⟨rfl, hm1, hm2, rfl⟩ | ⟨rfl, hm1, hm2, rfl⟩
  · have hm3 : (bt s 0 == 45) = true := by rw [hm2]; rfl
    have hm4 : (0 : Int) < (s.size : Int) := by omega
    have hm5 : (1 : Int) ≤ (s.size : Int) := by omega
    clear hm2 HMn
    go_enter Tryd.func18, Tryd.ntmps18
    go_wp2_with (first
          | (go_at_call 36; refine (specCutI _ _ _ (by assumption) (by decide)).mono ?_; rw [HC.out]; rintro e w' ⟨rfl, n1, rfl⟩)
          | fail)
    go_loop [33] (fun v => ∃ k : Nat, k ≤ h.size ∧ v = .int .i64 k) (fun v => h.size - (intOf v).toNat)
    case atStart => exact ⟨0, by omega, rfl⟩
    case round =>
      obtain ⟨k, hk, rfl⟩ := hrel
      by_cases hlt : k < h.size
      · by_cases hz : k = 0
        · subst hz
          go_wp2
          go_round
          case rel => exact ⟨1, by omega, by go_num⟩
          case measure => simp [intOf]; omega
        · have hz1 : ((k : Int) == 0) = false := by rw [beq_eq_false_iff_ne]; omega
          by_cases hc : bt h k = 43
          · have hc1 : (bt h k == 43) = true := by rw [hc]; rfl
            clear hc
            go_wp2
            go_round
            case rel => exact ⟨k + 1, by omega, by go_num⟩
            case measure => simp [intOf]; omega
          · have hc1 : (bt h k == 43) = false := by rw [beq_eq_false_iff_ne]; exact hc
            clear hc
            go_wp2
            go_round
            case rel => exact ⟨k + 1, by omega, by go_num⟩
            case measure => simp [intOf]; omega
      · obtain rfl : k = h.size := by omega
        go_wp2_with (first
              | (go_at_call 36; refine (specCutI _ _ _ (by assumption) (by decide)).mono ?_; rw [HC.out]; rintro e w' ⟨rfl, n1, rfl⟩)
              | (go_at_call 38; refine (digs_b _ _ (by assumption)).mono ?_; (first | rw [HH.out] | rw [HT.out]); rintro e w' ⟨rfl, rfl⟩)
              | (go_at_call 37; refine (dec_yes h _ hh HDC.out).mono ?_; rw [HVL.out]; rintro e w' ⟨rfl, rfl⟩)
              | fail)
        refine bodyPost_ret (results_row_tmp1 rfl _ _ w.heap.size _ [.int .i64 0, .int .i64 0] _ rfl (two_blk w _ _ _ _ _ n1) Tryd.underlying33 rfl sTimInfo) rfl ?_
        exact ⟨rfl, two_below _ _ _ _ _ _ _⟩
  · have hm3 : (bt u 0 == 45) = false := by rw [beq_eq_false_iff_ne]; exact hm2
    have hm4 : (0 : Int) < (u.size : Int) := by omega
    clear hm2 HMn
    go_enter Tryd.func18, Tryd.ntmps18
    go_wp2_with (first
          | (go_at_call 36; refine (specCutI _ _ _ (by assumption) (by decide)).mono ?_; rw [HC.out]; rintro e w' ⟨rfl, n1, rfl⟩)
          | fail)
    go_loop [33] (fun v => ∃ k : Nat, k ≤ h.size ∧ v = .int .i64 k) (fun v => h.size - (intOf v).toNat)
    case atStart => exact ⟨0, by omega, rfl⟩
    case round =>
      obtain ⟨k, hk, rfl⟩ := hrel
      by_cases hlt : k < h.size
      · by_cases hz : k = 0
        · subst hz
          go_wp2
          go_round
          case rel => exact ⟨1, by omega, by go_num⟩
          case measure => simp [intOf]; omega
        · have hz1 : ((k : Int) == 0) = false := by rw [beq_eq_false_iff_ne]; omega
          by_cases hc : bt h k = 43
          · have hc1 : (bt h k == 43) = true := by rw [hc]; rfl
            clear hc
            go_wp2
            go_round
            case rel => exact ⟨k + 1, by omega, by go_num⟩
            case measure => simp [intOf]; omega
          · have hc1 : (bt h k == 43) = false := by rw [beq_eq_false_iff_ne]; exact hc
            clear hc
            go_wp2
            go_round
            case rel => exact ⟨k + 1, by omega, by go_num⟩
            case measure => simp [intOf]; omega
      · obtain rfl : k = h.size := by omega
        go_wp2_with (first
              | (go_at_call 36; refine (specCutI _ _ _ (by assumption) (by decide)).mono ?_; rw [HC.out]; rintro e w' ⟨rfl, n1, rfl⟩)
              | (go_at_call 38; refine (digs_b _ _ (by assumption)).mono ?_; (first | rw [HH.out] | rw [HT.out]); rintro e w' ⟨rfl, rfl⟩)
              | (go_at_call 37; refine (dec_yes h _ hh HDC.out).mono ?_; rw [HVL.out]; rintro e w' ⟨rfl, rfl⟩)
              | fail)
        refine bodyPost_ret (results_row_tmp1 rfl _ _ w.heap.size _ [.int .i64 0, .int .i64 0] _ rfl (two_blk w _ _ _ _ _ n1) Tryd.underlying33 rfl sTimInfo) rfl ?_
        exact ⟨rfl, two_below _ _ _ _ _ _ _⟩

set_option maxRecDepth 20000 in
set_option maxHeartbeats 3200000 in
theorem sTim_noWhole1 {c b : Bool} (s u h t : ByteArray) (w : World) (hs : s.size ≤ 2147483647) (hu : u.size ≤ s.size) (hhu : h.size ≤ u.size) (htu : t.size ≤ u.size) (HC : Hid (cutI 46 u = .tuple #[.string h, .string t, .bool c])) (HMn : Hid (Minus s u b)) (hp : bt h 0 ≠ 43) (hz : h.size = 0) (hc : c = true) (hz2 : ¬ t.size = 0) (hd2 : DigOk t) :
    Calls Tryd.prog 18 #[.string s] w (STim 0 0 0 w) := by
  have hu2 : u.size ≤ 4611686018427387904 := by omega
  have hh : h.size ≤ 4611686018427387904 := by omega
  have ht : t.size ≤ 4611686018427387904 := by omega
  have hbs := get_bt s
  have hbh := get_bt h
  have hbt := get_bt t
  have hc0 : (bt h 0 == 43) = false := by rw [beq_eq_false_iff_ne]; exact hp
  clear hp
  obtain ⟨e1, e2⟩ := empty_yes hz
  have HDC : Hid (¬ DecOk h) := Lib.hid (fun hx => by have := hx.1; omega)
  have HH : Hid (digB h = digB h) := Lib.hid rfl
  obtain ⟨e3, e4⟩ := empty_no hz2
  have HT : Hid (digB t = true) := Lib.hid (digB_yes hd2)
  clear hz2 hd2
  subst hc
  rcases HMn.out with ⟨rfl, hm1, hm2, rfl⟩ | ⟨rfl, hm1, hm2, rfl⟩
  · have hm3 : (bt s 0 == 45) = true := by rw [hm2]; rfl
    have hm4 : (0 : Int) < (s.size : Int) := by omega
    have hm5 : (1 : Int) ≤ (s.size : Int) := by omega
    clear hm2 HMn
    go_enter Tryd.func18, Tryd.ntmps18
    go_wp2_with (first
          | (go_at_call 36; refine (specCutI _ _ _ (by assumption) (by decide)).mono ?_; rw [HC.out]; rintro e w' ⟨rfl, n1, rfl⟩)
          | fail)
    go_loop [33] (fun v => v = .int .i64 0) (fun _ => 0)
    case atStart => rfl
    case round =>
      obtain rfl := hrel
      go_wp2_with (first
            | (go_at_call 36; refine (specCutI _ _ _ (by assumption) (by decide)).mono ?_; rw [HC.out]; rintro e w' ⟨rfl, n1, rfl⟩)
            | (go_at_call 38; refine (digs_b _ _ (by assumption)).mono ?_; (first | rw [HH.out] | rw [HT.out]); rintro e w' ⟨rfl, rfl⟩)
            | (go_at_call 37; refine (dec_no h _ hh HDC.out).mono ?_; rintro e w' ⟨rfl, rfl⟩)
            | fail)
      refine bodyPost_ret (results_row_tmp1 rfl _ _ w.heap.size _ [.int .i64 0, .int .i64 0] _ rfl (two_blk w _ _ _ _ _ n1) Tryd.underlying33 rfl sTimInfo) rfl ?_
      exact ⟨rfl, two_below _ _ _ _ _ _ _⟩
  · have hm3 : (bt u 0 == 45) = false := by rw [beq_eq_false_iff_ne]; exact hm2
    have hm4 : (0 : Int) < (u.size : Int) := by omega
    clear hm2 HMn
    go_enter Tryd.func18, Tryd.ntmps18
    go_wp2_with (first
          | (go_at_call 36; refine (specCutI _ _ _ (by assumption) (by decide)).mono ?_; rw [HC.out]; rintro e w' ⟨rfl, n1, rfl⟩)
          | fail)
    go_loop [33] (fun v => v = .int .i64 0) (fun _ => 0)
    case atStart => rfl
    case round =>
      obtain rfl := hrel
      go_wp2_with (first
            | (go_at_call 36; refine (specCutI _ _ _ (by assumption) (by decide)).mono ?_; rw [HC.out]; rintro e w' ⟨rfl, n1, rfl⟩)
            | (go_at_call 38; refine (digs_b _ _ (by assumption)).mono ?_; (first | rw [HH.out] | rw [HT.out]); rintro e w' ⟨rfl, rfl⟩)
            | (go_at_call 37; refine (dec_no h _ hh HDC.out).mono ?_; rintro e w' ⟨rfl, rfl⟩)
            | fail)
      refine bodyPost_ret (results_row_tmp1 rfl _ _ w.heap.size _ [.int .i64 0, .int .i64 0] _ rfl (two_blk w _ _ _ _ _ n1) Tryd.underlying33 rfl sTimInfo) rfl ?_
      exact ⟨rfl, two_below _ _ _ _ _ _ _⟩

set_option maxRecDepth 20000 in
set_option maxHeartbeats 3200000 in
theorem sTim_great1 {c b : Bool} (s u h t : ByteArray) (w : World) (hs : s.size ≤ 2147483647) (hu : u.size ≤ s.size) (hhu : h.size ≤ u.size) (htu : t.size ≤ u.size) (HC : Hid (cutI 46 u = .tuple #[.string h, .string t, .bool c])) (HMn : Hid (Minus s u b)) (hp : bt h 0 ≠ 43) (hd : DigOk h) (hdc : ¬ DecOk h) (hz2 : ¬ t.size = 0) (hd2 : DigOk t) :
    Calls Tryd.prog 18 #[.string s] w (STim 0 0 0 w) := by
  have hu2 : u.size ≤ 4611686018427387904 := by omega
  have hh : h.size ≤ 4611686018427387904 := by omega
  have ht : t.size ≤ 4611686018427387904 := by omega
  have hbs := get_bt s
  have hbh := get_bt h
  have hbt := get_bt t
  have hc0 : (bt h 0 == 43) = false := by rw [beq_eq_false_iff_ne]; exact hp
  clear hp
  obtain ⟨e1, e2⟩ := empty_no (Nat.ne_of_gt hd.1)
  have HDC := Lib.hid hdc
  have HH : Hid (digB h = true) := Lib.hid (digB_yes hd)
  obtain ⟨e3, e4⟩ := empty_no hz2
  have HT : Hid (digB t = true) := Lib.hid (digB_yes hd2)
  clear hz2 hd2
  clear hd hdc
  rcases HMn.out with ⟨rfl, hm1, hm2, rfl⟩ | ⟨rfl, hm1, hm2, rfl⟩
  · have hm3 : (bt s 0 == 45) = true := by rw [hm2]; rfl
    have hm4 : (0 : Int) < (s.size : Int) := by omega
    have hm5 : (1 : Int) ≤ (s.size : Int) := by omega
    clear hm2 HMn
    go_enter Tryd.func18, Tryd.ntmps18
    go_wp2_with (first
          | (go_at_call 36; refine (specCutI _ _ _ (by assumption) (by decide)).mono ?_; rw [HC.out]; rintro e w' ⟨rfl, n1, rfl⟩)
          | fail)
    go_loop [33] (fun v => ∃ k : Nat, k ≤ h.size ∧ v = .int .i64 k) (fun v => h.size - (intOf v).toNat)
    case atStart => exact ⟨0, by omega, rfl⟩
    case round =>
      obtain ⟨k, hk, rfl⟩ := hrel
      by_cases hlt : k < h.size
      · by_cases hz : k = 0
        · subst hz
          go_wp2
          go_round
          case rel => exact ⟨1, by omega, by go_num⟩
          case measure => simp [intOf]; omega
        · have hz1 : ((k : Int) == 0) = false := by rw [beq_eq_false_iff_ne]; omega
          by_cases hc : bt h k = 43
          · have hc1 : (bt h k == 43) = true := by rw [hc]; rfl
            clear hc
            go_wp2
            go_round
            case rel => exact ⟨k + 1, by omega, by go_num⟩
            case measure => simp [intOf]; omega
          · have hc1 : (bt h k == 43) = false := by rw [beq_eq_false_iff_ne]; exact hc
            clear hc
            go_wp2
            go_round
            case rel => exact ⟨k + 1, by omega, by go_num⟩
            case measure => simp [intOf]; omega
      · obtain rfl : k = h.size := by omega
        go_wp2_with (first
              | (go_at_call 36; refine (specCutI _ _ _ (by assumption) (by decide)).mono ?_; rw [HC.out]; rintro e w' ⟨rfl, n1, rfl⟩)
              | (go_at_call 38; refine (digs_b _ _ (by assumption)).mono ?_; (first | rw [HH.out] | rw [HT.out]); rintro e w' ⟨rfl, rfl⟩)
              | (go_at_call 37; refine (dec_no h _ hh HDC.out).mono ?_; rintro e w' ⟨rfl, rfl⟩)
              | fail)
        refine bodyPost_ret (results_row_tmp1 rfl _ _ w.heap.size _ [.int .i64 0, .int .i64 0] _ rfl (two_blk w _ _ _ _ _ n1) Tryd.underlying33 rfl sTimInfo) rfl ?_
        exact ⟨rfl, two_below _ _ _ _ _ _ _⟩
  · have hm3 : (bt u 0 == 45) = false := by rw [beq_eq_false_iff_ne]; exact hm2
    have hm4 : (0 : Int) < (u.size : Int) := by omega
    clear hm2 HMn
    go_enter Tryd.func18, Tryd.ntmps18
    go_wp2_with (first
          | (go_at_call 36; refine (specCutI _ _ _ (by assumption) (by decide)).mono ?_; rw [HC.out]; rintro e w' ⟨rfl, n1, rfl⟩)
          | fail)
    go_loop [33] (fun v => ∃ k : Nat, k ≤ h.size ∧ v = .int .i64 k) (fun v => h.size - (intOf v).toNat)
    case atStart => exact ⟨0, by omega, rfl⟩
    case round =>
      obtain ⟨k, hk, rfl⟩ := hrel
      by_cases hlt : k < h.size
      · by_cases hz : k = 0
        · subst hz
          go_wp2
          go_round
          case rel => exact ⟨1, by omega, by go_num⟩
          case measure => simp [intOf]; omega
        · have hz1 : ((k : Int) == 0) = false := by rw [beq_eq_false_iff_ne]; omega
          by_cases hc : bt h k = 43
          · have hc1 : (bt h k == 43) = true := by rw [hc]; rfl
            clear hc
            go_wp2
            go_round
            case rel => exact ⟨k + 1, by omega, by go_num⟩
            case measure => simp [intOf]; omega
          · have hc1 : (bt h k == 43) = false := by rw [beq_eq_false_iff_ne]; exact hc
            clear hc
            go_wp2
            go_round
            case rel => exact ⟨k + 1, by omega, by go_num⟩
            case measure => simp [intOf]; omega
      · obtain rfl : k = h.size := by omega
        go_wp2_with (first
              | (go_at_call 36; refine (specCutI _ _ _ (by assumption) (by decide)).mono ?_; rw [HC.out]; rintro e w' ⟨rfl, n1, rfl⟩)
              | (go_at_call 38; refine (digs_b _ _ (by assumption)).mono ?_; (first | rw [HH.out] | rw [HT.out]); rintro e w' ⟨rfl, rfl⟩)
              | (go_at_call 37; refine (dec_no h _ hh HDC.out).mono ?_; rintro e w' ⟨rfl, rfl⟩)
              | fail)
        refine bodyPost_ret (results_row_tmp1 rfl _ _ w.heap.size _ [.int .i64 0, .int .i64 0] _ rfl (two_blk w _ _ _ _ _ n1) Tryd.underlying33 rfl sTimInfo) rfl ?_
        exact ⟨rfl, two_below _ _ _ _ _ _ _⟩

set_option maxRecDepth 20000 in
set_option maxHeartbeats 3200000 in
theorem sTim_long1 {c b : Bool} (s u h t : ByteArray) (w : World) (hs : s.size ≤ 2147483647) (hu : u.size ≤ s.size) (hhu : h.size ≤ u.size) (htu : t.size ≤ u.size) (HC : Hid (cutI 46 u = .tuple #[.string h, .string t, .bool c])) (HMn : Hid (Minus s u b)) (hp : bt h 0 ≠ 43) (hdc : DecOk h) (h18 : 18 < h.size) (hz2 : ¬ t.size = 0) (hd2 : DigOk t) :
    Calls Tryd.prog 18 #[.string s] w (STim 0 0 0 w) := by
  have hu2 : u.size ≤ 4611686018427387904 := by omega
  have hh : h.size ≤ 4611686018427387904 := by omega
  have ht : t.size ≤ 4611686018427387904 := by omega
  have hbs := get_bt s
  have hbh := get_bt h
  have hbt := get_bt t
  have hc0 : (bt h 0 == 43) = false := by rw [beq_eq_false_iff_ne]; exact hp
  clear hp
  obtain ⟨e1, e2⟩ := empty_no (Nat.ne_of_gt hdc.1)
  have HDC := Lib.hid hdc
  obtain ⟨W, hW⟩ : ∃ W, vl 0 h.data.toList = W := ⟨_, rfl⟩
  have HVL := Lib.hid hW
  have HH : Hid (digB h = true) := Lib.hid (digB_yes ⟨hdc.1, hdc.2.2.1⟩)
  obtain ⟨e3, e4⟩ := empty_no hz2
  have HT : Hid (digB t = true) := Lib.hid (digB_yes hd2)
  clear hz2 hd2
  clear hdc hW
  rcases HMn.out with ⟨rfl, hm1, hm2, rfl⟩ | ⟨rfl, hm1, hm2, rfl⟩
  · have hm3 : (bt s 0 == 45) = true := by rw [hm2]; rfl
    have hm4 : (0 : Int) < (s.size : Int) := by omega
    have hm5 : (1 : Int) ≤ (s.size : Int) := by omega
    clear hm2 HMn
    go_enter Tryd.func18, Tryd.ntmps18
    go_wp2_with (first
          | (go_at_call 36; refine (specCutI _ _ _ (by assumption) (by decide)).mono ?_; rw [HC.out]; rintro e w' ⟨rfl, n1, rfl⟩)
          | fail)
    go_loop [33] (fun v => ∃ k : Nat, k ≤ h.size ∧ v = .int .i64 k) (fun v => h.size - (intOf v).toNat)
    case atStart => exact ⟨0, by omega, rfl⟩
    case round =>
      obtain ⟨k, hk, rfl⟩ := hrel
      by_cases hlt : k < h.size
      · by_cases hz : k = 0
        · subst hz
          go_wp2
          go_round
          case rel => exact ⟨1, by omega, by go_num⟩
          case measure => simp [intOf]; omega
        · have hz1 : ((k : Int) == 0) = false := by rw [beq_eq_false_iff_ne]; omega
          by_cases hc : bt h k = 43
          · have hc1 : (bt h k == 43) = true := by rw [hc]; rfl
            clear hc
            go_wp2
            go_round
            case rel => exact ⟨k + 1, by omega, by go_num⟩
            case measure => simp [intOf]; omega
          · have hc1 : (bt h k == 43) = false := by rw [beq_eq_false_iff_ne]; exact hc
            clear hc
            go_wp2
            go_round
            case rel => exact ⟨k + 1, by omega, by go_num⟩
            case measure => simp [intOf]; omega
      · obtain rfl : k = h.size := by omega
        go_wp2_with (first
              | (go_at_call 36; refine (specCutI _ _ _ (by assumption) (by decide)).mono ?_; rw [HC.out]; rintro e w' ⟨rfl, n1, rfl⟩)
              | (go_at_call 38; refine (digs_b _ _ (by assumption)).mono ?_; (first | rw [HH.out] | rw [HT.out]); rintro e w' ⟨rfl, rfl⟩)
              | (go_at_call 37; refine (dec_yes h _ hh HDC.out).mono ?_; rw [HVL.out]; rintro e w' ⟨rfl, rfl⟩)
              | fail)
        refine bodyPost_ret (results_row_tmp1 rfl _ _ w.heap.size _ [.int .i64 0, .int .i64 0] _ rfl (two_blk w _ _ _ _ _ n1) Tryd.underlying33 rfl sTimInfo) rfl ?_
        exact ⟨rfl, two_below _ _ _ _ _ _ _⟩
  · have hm3 : (bt u 0 == 45) = false := by rw [beq_eq_false_iff_ne]; exact hm2
    have hm4 : (0 : Int) < (u.size : Int) := by omega
    clear hm2 HMn
    go_enter Tryd.func18, Tryd.ntmps18
    go_wp2_with (first
          | (go_at_call 36; refine (specCutI _ _ _ (by assumption) (by decide)).mono ?_; rw [HC.out]; rintro e w' ⟨rfl, n1, rfl⟩)
          | fail)
    go_loop [33] (fun v => ∃ k : Nat, k ≤ h.size ∧ v = .int .i64 k) (fun v => h.size - (intOf v).toNat)
    case atStart => exact ⟨0, by omega, rfl⟩
    case round =>
      obtain ⟨k, hk, rfl⟩ := hrel
      by_cases hlt : k < h.size
      · by_cases hz : k = 0
        · subst hz
          go_wp2
          go_round
          case rel => exact ⟨1, by omega, by go_num⟩
          case measure => simp [intOf]; omega
        · have hz1 : ((k : Int) == 0) = false := by rw [beq_eq_false_iff_ne]; omega
          by_cases hc : bt h k = 43
          · have hc1 : (bt h k == 43) = true := by rw [hc]; rfl
            clear hc
            go_wp2
            go_round
            case rel => exact ⟨k + 1, by omega, by go_num⟩
            case measure => simp [intOf]; omega
          · have hc1 : (bt h k == 43) = false := by rw [beq_eq_false_iff_ne]; exact hc
            clear hc
            go_wp2
            go_round
            case rel => exact ⟨k + 1, by omega, by go_num⟩
            case measure => simp [intOf]; omega
      · obtain rfl : k = h.size := by omega
        go_wp2_with (first
              | (go_at_call 36; refine (specCutI _ _ _ (by assumption) (by decide)).mono ?_; rw [HC.out]; rintro e w' ⟨rfl, n1, rfl⟩)
              | (go_at_call 38; refine (digs_b _ _ (by assumption)).mono ?_; (first | rw [HH.out] | rw [HT.out]); rintro e w' ⟨rfl, rfl⟩)
              | (go_at_call 37; refine (dec_yes h _ hh HDC.out).mono ?_; rw [HVL.out]; rintro e w' ⟨rfl, rfl⟩)
              | fail)
        refine bodyPost_ret (results_row_tmp1 rfl _ _ w.heap.size _ [.int .i64 0, .int .i64 0] _ rfl (two_blk w _ _ _ _ _ n1) Tryd.underlying33 rfl sTimInfo) rfl ?_
        exact ⟨rfl, two_below _ _ _ _ _ _ _⟩

set_option maxRecDepth 20000 in
set_option maxHeartbeats 3200000 in
theorem sTim_noPart {c b : Bool} (s u h t : ByteArray) (w : World) (hs : s.size ≤ 2147483647) (hu : u.size ≤ s.size) (hhu : h.size ≤ u.size) (htu : t.size ≤ u.size) (HC : Hid (cutI 46 u = .tuple #[.string h, .string t, .bool c])) (HMn : Hid (Minus s u b)) (hp : bt h 0 ≠ 43) (hdc : DecOk h) (h18 : h.size ≤ 18) (hc : c = true) (hz2 : t.size = 0) :
    Calls Tryd.prog 18 #[.string s] w (STim 0 0 0 w) := by
  have hu2 : u.size ≤ 4611686018427387904 := by omega
  have hh : h.size ≤ 4611686018427387904 := by omega
  have ht : t.size ≤ 4611686018427387904 := by omega
  have hbs := get_bt s
  have hbh := get_bt h
  have hbt := get_bt t
  have hc0 : (bt h 0 == 43) = false := by rw [beq_eq_false_iff_ne]; exact hp
  clear hp
  obtain ⟨e1, e2⟩ := empty_no (Nat.ne_of_gt hdc.1)
  have HDC := Lib.hid hdc
  obtain ⟨W, hW⟩ : ∃ W, vl 0 h.data.toList = W := ⟨_, rfl⟩
  have HVL := Lib.hid hW
  have HH : Hid (digB h = true) := Lib.hid (digB_yes ⟨hdc.1, hdc.2.2.1⟩)
  obtain ⟨e3, e4⟩ := empty_yes hz2
  have HT : Hid (digB h = digB h) := Lib.hid rfl
  clear hz2
  clear hdc hW
  subst hc
  have h18' : ¬ (18 : Int) < (h.size : Int) := by omega
  rcases HMn.out with ⟨rfl, hm1, hm2, rfl⟩ | ⟨rfl, hm1, hm2, rfl⟩
  · have hm3 : (bt s 0 == 45) = true := by rw [hm2]; rfl
    have hm4 : (0 : Int) < (s.size : Int) := by omega
    have hm5 : (1 : Int) ≤ (s.size : Int) := by omega
    clear hm2 HMn
    go_enter Tryd.func18, Tryd.ntmps18
    go_wp2_with (first
          | (go_at_call 36; refine (specCutI _ _ _ (by assumption) (by decide)).mono ?_; rw [HC.out]; rintro e w' ⟨rfl, n1, rfl⟩)
          | fail)
    go_loop [33] (fun v => ∃ k : Nat, k ≤ h.size ∧ v = .int .i64 k) (fun v => h.size - (intOf v).toNat)
    case atStart => exact ⟨0, by omega, rfl⟩
    case round =>
      obtain ⟨k, hk, rfl⟩ := hrel
      by_cases hlt : k < h.size
      · by_cases hz : k = 0
        · subst hz
          go_wp2
          go_round
          case rel => exact ⟨1, by omega, by go_num⟩
          case measure => simp [intOf]; omega
        · have hz1 : ((k : Int) == 0) = false := by rw [beq_eq_false_iff_ne]; omega
          by_cases hc : bt h k = 43
          · have hc1 : (bt h k == 43) = true := by rw [hc]; rfl
            clear hc
            go_wp2
            go_round
            case rel => exact ⟨k + 1, by omega, by go_num⟩
            case measure => simp [intOf]; omega
          · have hc1 : (bt h k == 43) = false := by rw [beq_eq_false_iff_ne]; exact hc
            clear hc
            go_wp2
            go_round
            case rel => exact ⟨k + 1, by omega, by go_num⟩
            case measure => simp [intOf]; omega
      · obtain rfl : k = h.size := by omega
        go_wp2_with (first
              | (go_at_call 36; refine (specCutI _ _ _ (by assumption) (by decide)).mono ?_; rw [HC.out]; rintro e w' ⟨rfl, n1, rfl⟩)
              | (go_at_call 38; refine (digs_b _ _ (by assumption)).mono ?_; (first | rw [HH.out] | rw [HT.out]); rintro e w' ⟨rfl, rfl⟩)
              | (go_at_call 37; refine (dec_yes h _ hh HDC.out).mono ?_; rw [HVL.out]; rintro e w' ⟨rfl, rfl⟩)
              | fail)
        refine bodyPost_ret (results_row_tmp1 rfl _ _ w.heap.size _ [.int .i64 0, .int .i64 0] _ rfl (two_blk w _ _ _ _ _ n1) Tryd.underlying33 rfl sTimInfo) rfl ?_
        exact ⟨rfl, two_below _ _ _ _ _ _ _⟩
  · have hm3 : (bt u 0 == 45) = false := by rw [beq_eq_false_iff_ne]; exact hm2
    have hm4 : (0 : Int) < (u.size : Int) := by omega
    clear hm2 HMn
    go_enter Tryd.func18, Tryd.ntmps18
    go_wp2_with (first
          | (go_at_call 36; refine (specCutI _ _ _ (by assumption) (by decide)).mono ?_; rw [HC.out]; rintro e w' ⟨rfl, n1, rfl⟩)
          | fail)
    go_loop [33] (fun v => ∃ k : Nat, k ≤ h.size ∧ v = .int .i64 k) (fun v => h.size - (intOf v).toNat)
    case atStart => exact ⟨0, by omega, rfl⟩
    case round =>
      obtain ⟨k, hk, rfl⟩ := hrel
      by_cases hlt : k < h.size
      · by_cases hz : k = 0
        · subst hz
          go_wp2
          go_round
          case rel => exact ⟨1, by omega, by go_num⟩
          case measure => simp [intOf]; omega
        · have hz1 : ((k : Int) == 0) = false := by rw [beq_eq_false_iff_ne]; omega
          by_cases hc : bt h k = 43
          · have hc1 : (bt h k == 43) = true := by rw [hc]; rfl
            clear hc
            go_wp2
            go_round
            case rel => exact ⟨k + 1, by omega, by go_num⟩
            case measure => simp [intOf]; omega
          · have hc1 : (bt h k == 43) = false := by rw [beq_eq_false_iff_ne]; exact hc
            clear hc
            go_wp2
            go_round
            case rel => exact ⟨k + 1, by omega, by go_num⟩
            case measure => simp [intOf]; omega
      · obtain rfl : k = h.size := by omega
        go_wp2_with (first
              | (go_at_call 36; refine (specCutI _ _ _ (by assumption) (by decide)).mono ?_; rw [HC.out]; rintro e w' ⟨rfl, n1, rfl⟩)
              | (go_at_call 38; refine (digs_b _ _ (by assumption)).mono ?_; (first | rw [HH.out] | rw [HT.out]); rintro e w' ⟨rfl, rfl⟩)
              | (go_at_call 37; refine (dec_yes h _ hh HDC.out).mono ?_; rw [HVL.out]; rintro e w' ⟨rfl, rfl⟩)
              | fail)
        refine bodyPost_ret (results_row_tmp1 rfl _ _ w.heap.size _ [.int .i64 0, .int .i64 0] _ rfl (two_blk w _ _ _ _ _ n1) Tryd.underlying33 rfl sTimInfo) rfl ?_
        exact ⟨rfl, two_below _ _ _ _ _ _ _⟩
end Go.Proofs.YtlchagphjmfooaaDoor
