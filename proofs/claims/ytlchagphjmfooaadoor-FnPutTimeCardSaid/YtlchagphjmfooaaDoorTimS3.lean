/- spec.ReadTime where it reads the part of a second (written by gen_tims.py). -/
import Derived.Test.YtlchagphjmfooaaDoorTimS2
namespace Go.Proofs.YtlchagphjmfooaaDoor
open Go.RowKit Go.PlainAid
set_option linter.unusedVariables false

def secV (b : Bool) (W n : Nat) : Int := if b = true then (if n = 0 then -(W : Int) else -(W : Int) - 1) else (W : Int)
def nsV (b : Bool) (n : Nat) : Int := if b = true then (if n = 0 then 0 else 1000000000 - (n : Int)) else (n : Int)

set_option maxRecDepth 20000 in
set_option maxHeartbeats 3200000 in
theorem sTim_right0 {c b : Bool} (s u h t : ByteArray) (w : World) (hs : s.size ≤ 2147483647) (hu : u.size ≤ s.size) (hhu : h.size ≤ u.size) (htu : t.size ≤ u.size) (HC : Hid (cutI 46 u = .tuple #[.string h, .string t, .bool c])) (HMn : Hid (Minus s u b)) (hp : bt h 0 ≠ 43) (hdc : DecOk h) (h18 : h.size ≤ 18) (hc : c = false) (hz2 : t.size = 0) (W n : Nat) (hWW : vl 0 h.data.toList = W) (hn : nano t.data.toList = n) (hdig : allDig t.data.toList) (hz : Zeros t) :
    Calls Tryd.prog 18 #[.string s] w (STim (secV b W n) (nsV b n) 1 w) := by
  have hu2 : u.size ≤ 4611686018427387904 := by omega
  have hh : h.size ≤ 4611686018427387904 := by omega
  have ht : t.size ≤ 4611686018427387904 := by omega
  have hbs := get_bt s
  have hbh := get_bt h
  have hbt := get_bt t
  have hc0 : (bt h 0 == 43) = false := by rw [beq_eq_false_iff_ne]; exact hp
  clear hp
  obtain ⟨e1, e2⟩ := empty_no (Nat.ne_of_gt hdc.1)
  have HDC := Lib.hid hdc
  have HVL := Lib.hid hWW
  have HH : Hid (digB h = true) := Lib.hid (digB_yes ⟨hdc.1, hdc.2.2.1⟩)
  obtain ⟨e3, e4⟩ := empty_yes hz2
  have HT : Hid (digB h = digB h) := Lib.hid rfl
  clear hz2
  clear hdc hWW
  subst hc
  have h18' : ¬ (18 : Int) < (h.size : Int) := by omega
  have hn9 : n ≤ 999999999 := by rw [← hn]; have := nano_lt (l := t.data.toList) hdig; omega
  have HNN := Lib.hid hn
  have HDG : Hid (∀ j, j < t.size → 48 ≤ bt t j ∧ bt t j ≤ 57) := Lib.hid (fun j hj => allDig_bt t hdig j hj)
  obtain ⟨M, hM1, hM9, hMt, hMx⟩ : ∃ M : Nat, max (9 : Int) (t.size : Int) = (M : Int) ∧ 9 ≤ M ∧ t.size ≤ M ∧ (M = 9 ∨ M = t.size) := ⟨max 9 t.size, by omega, by omega, by omega, by omega⟩
  have HMX := Lib.hid hMx
  have hW63 : W ≤ 9223372036854775807 := by rw [← HVL.out]; exact HDC.out.2.2.2
  clear hn hMx hdig
  have HZZ := Lib.hid hz
  clear hz
  rcases HMn.out with ⟨rfl, hm1, hm2, rfl⟩ | ⟨rfl, hm1, hm2, rfl⟩
  · have hm3 : (bt s 0 == 45) = true := by rw [hm2]; rfl
    have hm4 : (0 : Int) < (s.size : Int) := by omega
    have hm5 : (1 : Int) ≤ (s.size : Int) := by omega
    clear hm2 HMn
    go_enter Tryd.func18, Tryd.ntmps18
    go_wp2_with (first
          | (go_at_call 36; refine (specCutI _ _ _ (by assumption) (by decide)).mono ?_; rw [HC.out]; rintro e w' ⟨rfl, n1, rfl⟩)
          | fail)
    go_loop [33] (fun v => ∃ k : Nat, k ≤ h.size ∧ v = .int .i64 k) (fun v => h.size - (intOf v).toNat)
    case atStart => exact ⟨0, by omega, rfl⟩
    case round =>
      obtain ⟨k, hk, rfl⟩ := hrel
      by_cases hlt : k < h.size
      · by_cases hz : k = 0
        · subst hz
          go_wp2
          go_round
          case rel => exact ⟨1, by omega, by go_num⟩
          case measure => simp [intOf]; omega
        · have hz1 : ((k : Int) == 0) = false := by rw [beq_eq_false_iff_ne]; omega
          by_cases hc : bt h k = 43
          · have hc1 : (bt h k == 43) = true := by rw [hc]; rfl
            clear hc
            go_wp2
            go_round
            case rel => exact ⟨k + 1, by omega, by go_num⟩
            case measure => simp [intOf]; omega
          · have hc1 : (bt h k == 43) = false := by rw [beq_eq_false_iff_ne]; exact hc
            clear hc
            go_wp2
            go_round
            case rel => exact ⟨k + 1, by omega, by go_num⟩
            case measure => simp [intOf]; omega
      · obtain rfl : k = h.size := by omega
        go_wp2_with (first
              | (go_at_call 36; refine (specCutI _ _ _ (by assumption) (by decide)).mono ?_; rw [HC.out]; rintro e w' ⟨rfl, n1, rfl⟩)
              | (go_at_call 38; refine (digs_b _ _ (by assumption)).mono ?_; (first | rw [HH.out] | rw [HT.out]); rintro e w' ⟨rfl, rfl⟩)
              | (go_at_call 37; refine (dec_yes h _ hh HDC.out).mono ?_; rw [HVL.out]; rintro e w' ⟨rfl, rfl⟩)
              | fail)
        go_loop [93, 11] (fun i a => ∃ k : Nat, k ≤ M ∧ i = .int .i64 k ∧ a = .int .i64 ((nacc t.data.toList k : Nat) : Int) ∧ Hid (∀ j, 9 ≤ j → j < k → j < t.size → bt t j = 48)) (fun i _ => M - (intOf i).toNat)
        case atStart => exact ⟨0, by omega, rfl, rfl, Lib.hid (fun j hj hj2 => by omega)⟩
        case round =>
          obtain ⟨k, hk, rfl, rfl, hZ⟩ := hrel
          obtain ⟨A, hA⟩ : ∃ A, nacc t.data.toList k = A := ⟨_, rfl⟩
          have hA9 : A ≤ 999999999 := by rw [← hA]; have := nacc_le t.data.toList k; have := HNN.out; omega
          rw [hA]
          have HA := Lib.hid hA
          clear hA
          by_cases hkM : k < M
          · by_cases hkt : k < t.size
            · obtain ⟨d1, d2⟩ := HDG.out k hkt
              obtain ⟨d, hd⟩ : ∃ d : Int, bt t k = 48 + d := ⟨bt t k - 48, by omega⟩
              have u1 : IntKind.u8.wrap (bt t k - 48) = d := by rw [IntWalk.u8_in _ ⟨by omega, by omega⟩]; omega
              have u2 : IntKind.i64.wrap d = d := IntWalk.i64_in _ (by omega)
              have u3 : IntKind.i64.wrap ((A : Int) * 10) = (A : Int) * 10 := IntWalk.i64_in _ (by omega)
              by_cases h9 : k < 9
              · obtain ⟨A', hA'⟩ : ∃ A', nacc t.data.toList (k + 1) = A' := ⟨_, rfl⟩
                have hs1 := nacc_in t k h9 hkt d hd (by omega)
                rw [hA', HA.out] at hs1
                have u4 : IntKind.i64.wrap ((A : Int) * 10 + d) = (A' : Int) := by rw [IntWalk.i64_in _ (by omega)]; exact hs1.symm
                have HA' := Lib.hid hA'
                have h9' : (k : Int) < 9 := by omega
                clear hA' hs1 d1 d2 hd
                go_wp2
                go_round
                case rel => exact ⟨k + 1, by omega, by go_num, by rw [HA'.out], Lib.hid (fun j hj hj2 => by omega)⟩
                case measure => simp [intOf]; omega
              · have h9' : ¬ (k : Int) < 9 := by omega
                by_cases hd0 : bt t k = 48
                · obtain rfl : d = 0 := by omega
                  have HZ : Hid (∀ j, 9 ≤ j → j < k + 1 → j < t.size → bt t j = 48) := Lib.hid (fun j hj hj2 hj3 => by
                    by_cases e : j < k
                    · exact hZ.out j hj e hj3
                    · obtain rfl : j = k := by omega
                      exact hd0)
                  clear d1 d2 hd hd0
                  go_wp2
                  go_round
                  case rel => exact ⟨k + 1, by omega, by go_num, by rw [nacc_more _ _ (by omega), HA.out], HZ⟩
                  case measure => simp [intOf]; omega
                · exact absurd (HZZ.out k (by omega) hkt) hd0
            · have h9 : k < 9 := by have := HMX.out; omega
              obtain ⟨A', hA'⟩ : ∃ A', nacc t.data.toList (k + 1) = A' := ⟨_, rfl⟩
              have hs1 := nacc_out t k h9 hkt
              rw [hA', HA.out] at hs1
              have u3 : IntKind.i64.wrap ((A : Int) * 10) = (A : Int) * 10 := IntWalk.i64_in _ (by omega)
              have u4 : IntKind.i64.wrap ((A : Int) * 10 + 0) = (A' : Int) := by rw [IntWalk.i64_in _ (by omega)]; exact hs1.symm
              have u5 : (A : Int) * 10 = (A' : Int) := by omega
              have HA' := Lib.hid hA'
              have h9' : (k : Int) < 9 := by omega
              clear hA' hs1
              go_wp2
              go_round
              case rel => exact ⟨k + 1, by omega, by go_num, by rw [HA'.out], Lib.hid (fun j hj hj2 => by omega)⟩
              case measure => simp [intOf]; omega
          · obtain rfl : k = M := by omega
            have hAn : A = n := by rw [← HA.out, nacc_all _ _ hM9]; exact HNN.out
            subst hAn
            have v1 : IntKind.i64.wrap (-(W : Int)) = -(W : Int) := IntWalk.i64_in _ (by omega)
            by_cases hA0 : A = 0
            · subst hA0
              go_wp2
              refine bodyPost_ret (results_row_tmp1 rfl _ _ w.heap.size _ [.int .i64 (-(W : Int)), .int .i64 0] _ rfl (two_blk w _ _ _ _ _ n1) Tryd.underlying33 rfl sTimInfo) rfl ?_
              exact ⟨rfl, two_below _ _ _ _ _ _ _⟩
            · have hA1 : (0 : Int) < (A : Int) := by omega
              have v2 : IntKind.i64.wrap (-(W : Int) - 1) = -(W : Int) - 1 := IntWalk.i64_in _ (by omega)
              have v3 : IntKind.i64.wrap (1000000000 - (A : Int)) = 1000000000 - (A : Int) := IntWalk.i64_in _ (by omega)
              have hsec : secV true W A = -(W : Int) - 1 := by unfold secV; rw [if_pos rfl, if_neg hA0]
              have hns : nsV true A = 1000000000 - (A : Int) := by unfold nsV; rw [if_pos rfl, if_neg hA0]
              rw [hsec, hns]
              clear hA0
              go_wp2
              refine bodyPost_ret (results_row_tmp1 rfl _ _ w.heap.size _ [.int .i64 (-(W : Int) - 1), .int .i64 (1000000000 - (A : Int))] _ rfl (two_blk w _ _ _ _ _ n1) Tryd.underlying33 rfl sTimInfo) rfl ?_
              exact ⟨rfl, two_below _ _ _ _ _ _ _⟩
  · have hm3 : (bt u 0 == 45) = false := by rw [beq_eq_false_iff_ne]; exact hm2
    have hm4 : (0 : Int) < (u.size : Int) := by omega
    clear hm2 HMn
    go_enter Tryd.func18, Tryd.ntmps18
    go_wp2_with (first
          | (go_at_call 36; refine (specCutI _ _ _ (by assumption) (by decide)).mono ?_; rw [HC.out]; rintro e w' ⟨rfl, n1, rfl⟩)
          | fail)
    go_loop [33] (fun v => ∃ k : Nat, k ≤ h.size ∧ v = .int .i64 k) (fun v => h.size - (intOf v).toNat)
    case atStart => exact ⟨0, by omega, rfl⟩
    case round =>
      obtain ⟨k, hk, rfl⟩ := hrel
      by_cases hlt : k < h.size
      · by_cases hz : k = 0
        · subst hz
          go_wp2
          go_round
          case rel => exact ⟨1, by omega, by go_num⟩
          case measure => simp [intOf]; omega
        · have hz1 : ((k : Int) == 0) = false := by rw [beq_eq_false_iff_ne]; omega
          by_cases hc : bt h k = 43
          · have hc1 : (bt h k == 43) = true := by rw [hc]; rfl
            clear hc
            go_wp2
            go_round
            case rel => exact ⟨k + 1, by omega, by go_num⟩
            case measure => simp [intOf]; omega
          · have hc1 : (bt h k == 43) = false := by rw [beq_eq_false_iff_ne]; exact hc
            clear hc
            go_wp2
            go_round
            case rel => exact ⟨k + 1, by omega, by go_num⟩
            case measure => simp [intOf]; omega
      · obtain rfl : k = h.size := by omega
        go_wp2_with (first
              | (go_at_call 36; refine (specCutI _ _ _ (by assumption) (by decide)).mono ?_; rw [HC.out]; rintro e w' ⟨rfl, n1, rfl⟩)
              | (go_at_call 38; refine (digs_b _ _ (by assumption)).mono ?_; (first | rw [HH.out] | rw [HT.out]); rintro e w' ⟨rfl, rfl⟩)
              | (go_at_call 37; refine (dec_yes h _ hh HDC.out).mono ?_; rw [HVL.out]; rintro e w' ⟨rfl, rfl⟩)
              | fail)
        go_loop [93, 11] (fun i a => ∃ k : Nat, k ≤ M ∧ i = .int .i64 k ∧ a = .int .i64 ((nacc t.data.toList k : Nat) : Int) ∧ Hid (∀ j, 9 ≤ j → j < k → j < t.size → bt t j = 48)) (fun i _ => M - (intOf i).toNat)
        case atStart => exact ⟨0, by omega, rfl, rfl, Lib.hid (fun j hj hj2 => by omega)⟩
        case round =>
          obtain ⟨k, hk, rfl, rfl, hZ⟩ := hrel
          obtain ⟨A, hA⟩ : ∃ A, nacc t.data.toList k = A := ⟨_, rfl⟩
          have hA9 : A ≤ 999999999 := by rw [← hA]; have := nacc_le t.data.toList k; have := HNN.out; omega
          rw [hA]
          have HA := Lib.hid hA
          clear hA
          by_cases hkM : k < M
          · by_cases hkt : k < t.size
            · obtain ⟨d1, d2⟩ := HDG.out k hkt
              obtain ⟨d, hd⟩ : ∃ d : Int, bt t k = 48 + d := ⟨bt t k - 48, by omega⟩
              have u1 : IntKind.u8.wrap (bt t k - 48) = d := by rw [IntWalk.u8_in _ ⟨by omega, by omega⟩]; omega
              have u2 : IntKind.i64.wrap d = d := IntWalk.i64_in _ (by omega)
              have u3 : IntKind.i64.wrap ((A : Int) * 10) = (A : Int) * 10 := IntWalk.i64_in _ (by omega)
              by_cases h9 : k < 9
              · obtain ⟨A', hA'⟩ : ∃ A', nacc t.data.toList (k + 1) = A' := ⟨_, rfl⟩
                have hs1 := nacc_in t k h9 hkt d hd (by omega)
                rw [hA', HA.out] at hs1
                have u4 : IntKind.i64.wrap ((A : Int) * 10 + d) = (A' : Int) := by rw [IntWalk.i64_in _ (by omega)]; exact hs1.symm
                have HA' := Lib.hid hA'
                have h9' : (k : Int) < 9 := by omega
                clear hA' hs1 d1 d2 hd
                go_wp2
                go_round
                case rel => exact ⟨k + 1, by omega, by go_num, by rw [HA'.out], Lib.hid (fun j hj hj2 => by omega)⟩
                case measure => simp [intOf]; omega
              · have h9' : ¬ (k : Int) < 9 := by omega
                by_cases hd0 : bt t k = 48
                · obtain rfl : d = 0 := by omega
                  have HZ : Hid (∀ j, 9 ≤ j → j < k + 1 → j < t.size → bt t j = 48) := Lib.hid (fun j hj hj2 hj3 => by
                    by_cases e : j < k
                    · exact hZ.out j hj e hj3
                    · obtain rfl : j = k := by omega
                      exact hd0)
                  clear d1 d2 hd hd0
                  go_wp2
                  go_round
                  case rel => exact ⟨k + 1, by omega, by go_num, by rw [nacc_more _ _ (by omega), HA.out], HZ⟩
                  case measure => simp [intOf]; omega
                · exact absurd (HZZ.out k (by omega) hkt) hd0
            · have h9 : k < 9 := by have := HMX.out; omega
              obtain ⟨A', hA'⟩ : ∃ A', nacc t.data.toList (k + 1) = A' := ⟨_, rfl⟩
              have hs1 := nacc_out t k h9 hkt
              rw [hA', HA.out] at hs1
              have u3 : IntKind.i64.wrap ((A : Int) * 10) = (A : Int) * 10 := IntWalk.i64_in _ (by omega)
              have u4 : IntKind.i64.wrap ((A : Int) * 10 + 0) = (A' : Int) := by rw [IntWalk.i64_in _ (by omega)]; exact hs1.symm
              have u5 : (A : Int) * 10 = (A' : Int) := by omega
              have HA' := Lib.hid hA'
              have h9' : (k : Int) < 9 := by omega
              clear hA' hs1
              go_wp2
              go_round
              case rel => exact ⟨k + 1, by omega, by go_num, by rw [HA'.out], Lib.hid (fun j hj hj2 => by omega)⟩
              case measure => simp [intOf]; omega
          · obtain rfl : k = M := by omega
            have hAn : A = n := by rw [← HA.out, nacc_all _ _ hM9]; exact HNN.out
            subst hAn
            go_wp2
            refine bodyPost_ret (results_row_tmp1 rfl _ _ w.heap.size _ [.int .i64 W, .int .i64 A] _ rfl (two_blk w _ _ _ _ _ n1) Tryd.underlying33 rfl sTimInfo) rfl ?_
            exact ⟨rfl, two_below _ _ _ _ _ _ _⟩

set_option maxRecDepth 20000 in
set_option maxHeartbeats 3200000 in
theorem sTim_right1 {c b : Bool} (s u h t : ByteArray) (w : World) (hs : s.size ≤ 2147483647) (hu : u.size ≤ s.size) (hhu : h.size ≤ u.size) (htu : t.size ≤ u.size) (HC : Hid (cutI 46 u = .tuple #[.string h, .string t, .bool c])) (HMn : Hid (Minus s u b)) (hp : bt h 0 ≠ 43) (hdc : DecOk h) (h18 : h.size ≤ 18) (hc : c = true) (hz2 : ¬ t.size = 0) (hd2 : DigOk t) (W n : Nat) (hWW : vl 0 h.data.toList = W) (hn : nano t.data.toList = n) (hdig : allDig t.data.toList) (hz : Zeros t) :
    Calls Tryd.prog 18 #[.string s] w (STim (secV b W n) (nsV b n) 1 w) := by
  have hu2 : u.size ≤ 4611686018427387904 := by omega
  have hh : h.size ≤ 4611686018427387904 := by omega
  have ht : t.size ≤ 4611686018427387904 := by omega
  have hbs := get_bt s
  have hbh := get_bt h
  have hbt := get_bt t
  have hc0 : (bt h 0 == 43) = false := by rw [beq_eq_false_iff_ne]; exact hp
  clear hp
  obtain ⟨e1, e2⟩ := empty_no (Nat.ne_of_gt hdc.1)
  have HDC := Lib.hid hdc
  have HVL := Lib.hid hWW
  have HH : Hid (digB h = true) := Lib.hid (digB_yes ⟨hdc.1, hdc.2.2.1⟩)
  obtain ⟨e3, e4⟩ := empty_no hz2
  have HT : Hid (digB t = true) := Lib.hid (digB_yes hd2)
  clear hz2 hd2
  clear hdc hWW
  subst hc
  have h18' : ¬ (18 : Int) < (h.size : Int) := by omega
  have hn9 : n ≤ 999999999 := by rw [← hn]; have := nano_lt (l := t.data.toList) hdig; omega
  have HNN := Lib.hid hn
  have HDG : Hid (∀ j, j < t.size → 48 ≤ bt t j ∧ bt t j ≤ 57) := Lib.hid (fun j hj => allDig_bt t hdig j hj)
  obtain ⟨M, hM1, hM9, hMt, hMx⟩ : ∃ M : Nat, max (9 : Int) (t.size : Int) = (M : Int) ∧ 9 ≤ M ∧ t.size ≤ M ∧ (M = 9 ∨ M = t.size) := ⟨max 9 t.size, by omega, by omega, by omega, by omega⟩
  have HMX := Lib.hid hMx
  have hW63 : W ≤ 9223372036854775807 := by rw [← HVL.out]; exact HDC.out.2.2.2
  clear hn hMx hdig
  have HZZ := Lib.hid hz
  clear hz
  rcases HMn.out with ⟨rfl, hm1, hm2, rfl⟩ | ⟨rfl, hm1, hm2, rfl⟩
  · have hm3 : (bt s 0 == 45) = true := by rw [hm2]; rfl
    have hm4 : (0 : Int) < (s.size : Int) := by omega
    have hm5 : (1 : Int) ≤ (s.size : Int) := by omega
    clear hm2 HMn
    go_enter Tryd.func18, Tryd.ntmps18
    go_wp2_with (first
          | (go_at_call 36; refine (specCutI _ _ _ (by assumption) (by decide)).mono ?_; rw [HC.out]; rintro e w' ⟨rfl, n1, rfl⟩)
          | fail)
    go_loop [33] (fun v => ∃ k : Nat, k ≤ h.size ∧ v = .int .i64 k) (fun v => h.size - (intOf v).toNat)
    case atStart => exact ⟨0, by omega, rfl⟩
    case round =>
      obtain ⟨k, hk, rfl⟩ := hrel
      by_cases hlt : k < h.size
      · by_cases hz : k = 0
        · subst hz
          go_wp2
          go_round
          case rel => exact ⟨1, by omega, by go_num⟩
          case measure => simp [intOf]; omega
        · have hz1 : ((k : Int) == 0) = false := by rw [beq_eq_false_iff_ne]; omega
          by_cases hc : bt h k = 43
          · have hc1 : (bt h k == 43) = true := by rw [hc]; rfl
            clear hc
            go_wp2
            go_round
            case rel => exact ⟨k + 1, by omega, by go_num⟩
            case measure => simp [intOf]; omega
          · have hc1 : (bt h k == 43) = false := by rw [beq_eq_false_iff_ne]; exact hc
            clear hc
            go_wp2
            go_round
            case rel => exact ⟨k + 1, by omega, by go_num⟩
            case measure => simp [intOf]; omega
      · obtain rfl : k = h.size := by omega
        go_wp2_with (first
              | (go_at_call 36; refine (specCutI _ _ _ (by assumption) (by decide)).mono ?_; rw [HC.out]; rintro e w' ⟨rfl, n1, rfl⟩)
              | (go_at_call 38; refine (digs_b _ _ (by assumption)).mono ?_; (first | rw [HH.out] | rw [HT.out]); rintro e w' ⟨rfl, rfl⟩)
              | (go_at_call 37; refine (dec_yes h _ hh HDC.out).mono ?_; rw [HVL.out]; rintro e w' ⟨rfl, rfl⟩)
              | fail)
        go_loop [93, 11] (fun i a => ∃ k : Nat, k ≤ M ∧ i = .int .i64 k ∧ a = .int .i64 ((nacc t.data.toList k : Nat) : Int) ∧ Hid (∀ j, 9 ≤ j → j < k → j < t.size → bt t j = 48)) (fun i _ => M - (intOf i).toNat)
        case atStart => exact ⟨0, by omega, rfl, rfl, Lib.hid (fun j hj hj2 => by omega)⟩
        case round =>
          obtain ⟨k, hk, rfl, rfl, hZ⟩ := hrel
          obtain ⟨A, hA⟩ : ∃ A, nacc t.data.toList k = A := ⟨_, rfl⟩
          have hA9 : A ≤ 999999999 := by rw [← hA]; have := nacc_le t.data.toList k; have := HNN.out; omega
          rw [hA]
          have HA := Lib.hid hA
          clear hA
          by_cases hkM : k < M
          · by_cases hkt : k < t.size
            · obtain ⟨d1, d2⟩ := HDG.out k hkt
              obtain ⟨d, hd⟩ : ∃ d : Int, bt t k = 48 + d := ⟨bt t k - 48, by omega⟩
              have u1 : IntKind.u8.wrap (bt t k - 48) = d := by rw [IntWalk.u8_in _ ⟨by omega, by omega⟩]; omega
              have u2 : IntKind.i64.wrap d = d := IntWalk.i64_in _ (by omega)
              have u3 : IntKind.i64.wrap ((A : Int) * 10) = (A : Int) * 10 := IntWalk.i64_in _ (by omega)
              by_cases h9 : k < 9
              · obtain ⟨A', hA'⟩ : ∃ A', nacc t.data.toList (k + 1) = A' := ⟨_, rfl⟩
                have hs1 := nacc_in t k h9 hkt d hd (by omega)
                rw [hA', HA.out] at hs1
                have u4 : IntKind.i64.wrap ((A : Int) * 10 + d) = (A' : Int) := by rw [IntWalk.i64_in _ (by omega)]; exact hs1.symm
                have HA' := Lib.hid hA'
                have h9' : (k : Int) < 9 := by omega
                clear hA' hs1 d1 d2 hd
                go_wp2
                go_round
                case rel => exact ⟨k + 1, by omega, by go_num, by rw [HA'.out], Lib.hid (fun j hj hj2 => by omega)⟩
                case measure => simp [intOf]; omega
              · have h9' : ¬ (k : Int) < 9 := by omega
                by_cases hd0 : bt t k = 48
                · obtain rfl : d = 0 := by omega
                  have HZ : Hid (∀ j, 9 ≤ j → j < k + 1 → j < t.size → bt t j = 48) := Lib.hid (fun j hj hj2 hj3 => by
                    by_cases e : j < k
                    · exact hZ.out j hj e hj3
                    · obtain rfl : j = k := by omega
                      exact hd0)
                  clear d1 d2 hd hd0
                  go_wp2
                  go_round
                  case rel => exact ⟨k + 1, by omega, by go_num, by rw [nacc_more _ _ (by omega), HA.out], HZ⟩
                  case measure => simp [intOf]; omega
                · exact absurd (HZZ.out k (by omega) hkt) hd0
            · have h9 : k < 9 := by have := HMX.out; omega
              obtain ⟨A', hA'⟩ : ∃ A', nacc t.data.toList (k + 1) = A' := ⟨_, rfl⟩
              have hs1 := nacc_out t k h9 hkt
              rw [hA', HA.out] at hs1
              have u3 : IntKind.i64.wrap ((A : Int) * 10) = (A : Int) * 10 := IntWalk.i64_in _ (by omega)
              have u4 : IntKind.i64.wrap ((A : Int) * 10 + 0) = (A' : Int) := by rw [IntWalk.i64_in _ (by omega)]; exact hs1.symm
              have u5 : (A : Int) * 10 = (A' : Int) := by omega
              have HA' := Lib.hid hA'
              have h9' : (k : Int) < 9 := by omega
              clear hA' hs1
              go_wp2
              go_round
              case rel => exact ⟨k + 1, by omega, by go_num, by rw [HA'.out], Lib.hid (fun j hj hj2 => by omega)⟩
              case measure => simp [intOf]; omega
          · obtain rfl : k = M := by omega
            have hAn : A = n := by rw [← HA.out, nacc_all _ _ hM9]; exact HNN.out
            subst hAn
            have v1 : IntKind.i64.wrap (-(W : Int)) = -(W : Int) := IntWalk.i64_in _ (by omega)
            by_cases hA0 : A = 0
            · subst hA0
              go_wp2
              refine bodyPost_ret (results_row_tmp1 rfl _ _ w.heap.size _ [.int .i64 (-(W : Int)), .int .i64 0] _ rfl (two_blk w _ _ _ _ _ n1) Tryd.underlying33 rfl sTimInfo) rfl ?_
              exact ⟨rfl, two_below _ _ _ _ _ _ _⟩
            · have hA1 : (0 : Int) < (A : Int) := by omega
              have v2 : IntKind.i64.wrap (-(W : Int) - 1) = -(W : Int) - 1 := IntWalk.i64_in _ (by omega)
              have v3 : IntKind.i64.wrap (1000000000 - (A : Int)) = 1000000000 - (A : Int) := IntWalk.i64_in _ (by omega)
              have hsec : secV true W A = -(W : Int) - 1 := by unfold secV; rw [if_pos rfl, if_neg hA0]
              have hns : nsV true A = 1000000000 - (A : Int) := by unfold nsV; rw [if_pos rfl, if_neg hA0]
              rw [hsec, hns]
              clear hA0
              go_wp2
              refine bodyPost_ret (results_row_tmp1 rfl _ _ w.heap.size _ [.int .i64 (-(W : Int) - 1), .int .i64 (1000000000 - (A : Int))] _ rfl (two_blk w _ _ _ _ _ n1) Tryd.underlying33 rfl sTimInfo) rfl ?_
              exact ⟨rfl, two_below _ _ _ _ _ _ _⟩
  · have hm3 : (bt u 0 == 45) = false := by rw [beq_eq_false_iff_ne]; exact hm2
    have hm4 : (0 : Int) < (u.size : Int) := by omega
    clear hm2 HMn
    go_enter Tryd.func18, Tryd.ntmps18
    go_wp2_with (first
          | (go_at_call 36; refine (specCutI _ _ _ (by assumption) (by decide)).mono ?_; rw [HC.out]; rintro e w' ⟨rfl, n1, rfl⟩)
          | fail)
    go_loop [33] (fun v => ∃ k : Nat, k ≤ h.size ∧ v = .int .i64 k) (fun v => h.size - (intOf v).toNat)
    case atStart => exact ⟨0, by omega, rfl⟩
    case round =>
      obtain ⟨k, hk, rfl⟩ := hrel
      by_cases hlt : k < h.size
      · by_cases hz : k = 0
        · subst hz
          go_wp2
          go_round
          case rel => exact ⟨1, by omega, by go_num⟩
          case measure => simp [intOf]; omega
        · have hz1 : ((k : Int) == 0) = false := by rw [beq_eq_false_iff_ne]; omega
          by_cases hc : bt h k = 43
          · have hc1 : (bt h k == 43) = true := by rw [hc]; rfl
            clear hc
            go_wp2
            go_round
            case rel => exact ⟨k + 1, by omega, by go_num⟩
            case measure => simp [intOf]; omega
          · have hc1 : (bt h k == 43) = false := by rw [beq_eq_false_iff_ne]; exact hc
            clear hc
            go_wp2
            go_round
            case rel => exact ⟨k + 1, by omega, by go_num⟩
            case measure => simp [intOf]; omega
      · obtain rfl : k = h.size := by omega
        go_wp2_with (first
              | (go_at_call 36; refine (specCutI _ _ _ (by assumption) (by decide)).mono ?_; rw [HC.out]; rintro e w' ⟨rfl, n1, rfl⟩)
              | (go_at_call 38; refine (digs_b _ _ (by assumption)).mono ?_; (first | rw [HH.out] | rw [HT.out]); rintro e w' ⟨rfl, rfl⟩)
              | (go_at_call 37; refine (dec_yes h _ hh HDC.out).mono ?_; rw [HVL.out]; rintro e w' ⟨rfl, rfl⟩)
              | fail)
        go_loop [93, 11] (fun i a => ∃ k : Nat, k ≤ M ∧ i = .int .i64 k ∧ a = .int .i64 ((nacc t.data.toList k : Nat) : Int) ∧ Hid (∀ j, 9 ≤ j → j < k → j < t.size → bt t j = 48)) (fun i _ => M - (intOf i).toNat)
        case atStart => exact ⟨0, by omega, rfl, rfl, Lib.hid (fun j hj hj2 => by omega)⟩
        case round =>
          obtain ⟨k, hk, rfl, rfl, hZ⟩ := hrel
          obtain ⟨A, hA⟩ : ∃ A, nacc t.data.toList k = A := ⟨_, rfl⟩
          have hA9 : A ≤ 999999999 := by rw [← hA]; have := nacc_le t.data.toList k; have := HNN.out; omega
          rw [hA]
          have HA := Lib.hid hA
          clear hA
          by_cases hkM : k < M
          · by_cases hkt : k < t.size
            · obtain ⟨d1, d2⟩ := HDG.out k hkt
              obtain ⟨d, hd⟩ : ∃ d : Int, bt t k = 48 + d := ⟨bt t k - 48, by omega⟩
              have u1 : IntKind.u8.wrap (bt t k - 48) = d := by rw [IntWalk.u8_in _ ⟨by omega, by omega⟩]; omega
              have u2 : IntKind.i64.wrap d = d := IntWalk.i64_in _ (by omega)
              have u3 : IntKind.i64.wrap ((A : Int) * 10) = (A : Int) * 10 := IntWalk.i64_in _ (by omega)
              by_cases h9 : k < 9
              · obtain ⟨A', hA'⟩ : ∃ A', nacc t.data.toList (k + 1) = A' := ⟨_, rfl⟩
                have hs1 := nacc_in t k h9 hkt d hd (by omega)
                rw [hA', HA.out] at hs1
                have u4 : IntKind.i64.wrap ((A : Int) * 10 + d) = (A' : Int) := by rw [IntWalk.i64_in _ (by omega)]; exact hs1.symm
                have HA' := Lib.hid hA'
                have h9' : (k : Int) < 9 := by omega
                clear hA' hs1 d1 d2 hd
                go_wp2
                go_round
                case rel => exact ⟨k + 1, by omega, by go_num, by rw [HA'.out], Lib.hid (fun j hj hj2 => by omega)⟩
                case measure => simp [intOf]; omega
              · have h9' : ¬ (k : Int) < 9 := by omega
                by_cases hd0 : bt t k = 48
                · obtain rfl : d = 0 := by omega
                  have HZ : Hid (∀ j, 9 ≤ j → j < k + 1 → j < t.size → bt t j = 48) := Lib.hid (fun j hj hj2 hj3 => by
                    by_cases e : j < k
                    · exact hZ.out j hj e hj3
                    · obtain rfl : j = k := by omega
                      exact hd0)
                  clear d1 d2 hd hd0
                  go_wp2
                  go_round
                  case rel => exact ⟨k + 1, by omega, by go_num, by rw [nacc_more _ _ (by omega), HA.out], HZ⟩
                  case measure => simp [intOf]; omega
                · exact absurd (HZZ.out k (by omega) hkt) hd0
            · have h9 : k < 9 := by have := HMX.out; omega
              obtain ⟨A', hA'⟩ : ∃ A', nacc t.data.toList (k + 1) = A' := ⟨_, rfl⟩
              have hs1 := nacc_out t k h9 hkt
              rw [hA', HA.out] at hs1
              have u3 : IntKind.i64.wrap ((A : Int) * 10) = (A : Int) * 10 := IntWalk.i64_in _ (by omega)
              have u4 : IntKind.i64.wrap ((A : Int) * 10 + 0) = (A' : Int) := by rw [IntWalk.i64_in _ (by omega)]; exact hs1.symm
              have u5 : (A : Int) * 10 = (A' : Int) := by omega
              have HA' := Lib.hid hA'
              have h9' : (k : Int) < 9 := by omega
              clear hA' hs1
              go_wp2
              go_round
              case rel => exact ⟨k + 1, by omega, by go_num, by rw [HA'.out], Lib.hid (fun j hj hj2 => by omega)⟩
              case measure => simp [intOf]; omega
          · obtain rfl : k = M := by omega
            have hAn : A = n := by rw [← HA.out, nacc_all _ _ hM9]; exact HNN.out
            subst hAn
            go_wp2
            refine bodyPost_ret (results_row_tmp1 rfl _ _ w.heap.size _ [.int .i64 W, .int .i64 A] _ rfl (two_blk w _ _ _ _ _ n1) Tryd.underlying33 rfl sTimInfo) rfl ?_
            exact ⟨rfl, two_below _ _ _ _ _ _ _⟩

set_option maxRecDepth 20000 in
set_option maxHeartbeats 3200000 in
theorem sTim_fine {c b : Bool} (s u h t : ByteArray) (w : World) (hs : s.size ≤ 2147483647) (hu : u.size ≤ s.size) (hhu : h.size ≤ u.size) (htu : t.size ≤ u.size) (HC : Hid (cutI 46 u = .tuple #[.string h, .string t, .bool c])) (HMn : Hid (Minus s u b)) (hp : bt h 0 ≠ 43) (hdc : DecOk h) (h18 : h.size ≤ 18) (hc : c = true) (hz2 : ¬ t.size = 0) (hd2 : DigOk t) (W n : Nat) (hWW : vl 0 h.data.toList = W) (hn : nano t.data.toList = n) (hdig : allDig t.data.toList) (hz : ¬ Zeros t) :
    Calls Tryd.prog 18 #[.string s] w (STim 0 0 0 w) := by
  have hu2 : u.size ≤ 4611686018427387904 := by omega
  have hh : h.size ≤ 4611686018427387904 := by omega
  have ht : t.size ≤ 4611686018427387904 := by omega
  have hbs := get_bt s
  have hbh := get_bt h
  have hbt := get_bt t
  have hc0 : (bt h 0 == 43) = false := by rw [beq_eq_false_iff_ne]; exact hp
  clear hp
  obtain ⟨e1, e2⟩ := empty_no (Nat.ne_of_gt hdc.1)
  have HDC := Lib.hid hdc
  have HVL := Lib.hid hWW
  have HH : Hid (digB h = true) := Lib.hid (digB_yes ⟨hdc.1, hdc.2.2.1⟩)
  obtain ⟨e3, e4⟩ := empty_no hz2
  have HT : Hid (digB t = true) := Lib.hid (digB_yes hd2)
  clear hz2 hd2
  clear hdc hWW
  subst hc
  have h18' : ¬ (18 : Int) < (h.size : Int) := by omega
  have hn9 : n ≤ 999999999 := by rw [← hn]; have := nano_lt (l := t.data.toList) hdig; omega
  have HNN := Lib.hid hn
  have HDG : Hid (∀ j, j < t.size → 48 ≤ bt t j ∧ bt t j ≤ 57) := Lib.hid (fun j hj => allDig_bt t hdig j hj)
  obtain ⟨M, hM1, hM9, hMt, hMx⟩ : ∃ M : Nat, max (9 : Int) (t.size : Int) = (M : Int) ∧ 9 ≤ M ∧ t.size ≤ M ∧ (M = 9 ∨ M = t.size) := ⟨max 9 t.size, by omega, by omega, by omega, by omega⟩
  have HMX := Lib.hid hMx
  have hW63 : W ≤ 9223372036854775807 := by rw [← HVL.out]; exact HDC.out.2.2.2
  clear hn hMx hdig
  have HZZ := Lib.hid hz
  clear hz
  rcases HMn.out with ⟨rfl, hm1, hm2, rfl⟩ | ⟨rfl, hm1, hm2, rfl⟩
  · have hm3 : (bt s 0 == 45) = true := by rw [hm2]; rfl
    have hm4 : (0 : Int) < (s.size : Int) := by omega
    have hm5 : (1 : Int) ≤ (s.size : Int) := by omega
    clear hm2 HMn
    go_enter Tryd.func18, Tryd.ntmps18
    go_wp2_with (first
          | (go_at_call 36; refine (specCutI _ _ _ (by assumption) (by decide)).mono ?_; rw [HC.out]; rintro e w' ⟨rfl, n1, rfl⟩)
          | fail)
    go_loop [33] (fun v => ∃ k : Nat, k ≤ h.size ∧ v = .int .i64 k) (fun v => h.size - (intOf v).toNat)
    case atStart => exact ⟨0, by omega, rfl⟩
    case round =>
      obtain ⟨k, hk, rfl⟩ := hrel
      by_cases hlt : k < h.size
      · by_cases hz : k = 0
        · subst hz
          go_wp2
          go_round
          case rel => exact ⟨1, by omega, by go_num⟩
          case measure => simp [intOf]; omega
        · have hz1 : ((k : Int) == 0) = false := by rw [beq_eq_false_iff_ne]; omega
          by_cases hc : bt h k = 43
          · have hc1 : (bt h k == 43) = true := by rw [hc]; rfl
            clear hc
            go_wp2
            go_round
            case rel => exact ⟨k + 1, by omega, by go_num⟩
            case measure => simp [intOf]; omega
          · have hc1 : (bt h k == 43) = false := by rw [beq_eq_false_iff_ne]; exact hc
            clear hc
            go_wp2
            go_round
            case rel => exact ⟨k + 1, by omega, by go_num⟩
            case measure => simp [intOf]; omega
      · obtain rfl : k = h.size := by omega
        go_wp2_with (first
              | (go_at_call 36; refine (specCutI _ _ _ (by assumption) (by decide)).mono ?_; rw [HC.out]; rintro e w' ⟨rfl, n1, rfl⟩)
              | (go_at_call 38; refine (digs_b _ _ (by assumption)).mono ?_; (first | rw [HH.out] | rw [HT.out]); rintro e w' ⟨rfl, rfl⟩)
              | (go_at_call 37; refine (dec_yes h _ hh HDC.out).mono ?_; rw [HVL.out]; rintro e w' ⟨rfl, rfl⟩)
              | fail)
        go_loop [93, 11] (fun i a => ∃ k : Nat, k ≤ M ∧ i = .int .i64 k ∧ a = .int .i64 ((nacc t.data.toList k : Nat) : Int) ∧ Hid (∀ j, 9 ≤ j → j < k → j < t.size → bt t j = 48)) (fun i _ => M - (intOf i).toNat)
        case atStart => exact ⟨0, by omega, rfl, rfl, Lib.hid (fun j hj hj2 => by omega)⟩
        case round =>
          obtain ⟨k, hk, rfl, rfl, hZ⟩ := hrel
          obtain ⟨A, hA⟩ : ∃ A, nacc t.data.toList k = A := ⟨_, rfl⟩
          have hA9 : A ≤ 999999999 := by rw [← hA]; have := nacc_le t.data.toList k; have := HNN.out; omega
          rw [hA]
          have HA := Lib.hid hA
          clear hA
          by_cases hkM : k < M
          · by_cases hkt : k < t.size
            · obtain ⟨d1, d2⟩ := HDG.out k hkt
              obtain ⟨d, hd⟩ : ∃ d : Int, bt t k = 48 + d := ⟨bt t k - 48, by omega⟩
              have u1 : IntKind.u8.wrap (bt t k - 48) = d := by rw [IntWalk.u8_in _ ⟨by omega, by omega⟩]; omega
              have u2 : IntKind.i64.wrap d = d := IntWalk.i64_in _ (by omega)
              have u3 : IntKind.i64.wrap ((A : Int) * 10) = (A : Int) * 10 := IntWalk.i64_in _ (by omega)
              by_cases h9 : k < 9
              · obtain ⟨A', hA'⟩ : ∃ A', nacc t.data.toList (k + 1) = A' := ⟨_, rfl⟩
                have hs1 := nacc_in t k h9 hkt d hd (by omega)
                rw [hA', HA.out] at hs1
                have u4 : IntKind.i64.wrap ((A : Int) * 10 + d) = (A' : Int) := by rw [IntWalk.i64_in _ (by omega)]; exact hs1.symm
                have HA' := Lib.hid hA'
                have h9' : (k : Int) < 9 := by omega
                clear hA' hs1 d1 d2 hd
                go_wp2
                go_round
                case rel => exact ⟨k + 1, by omega, by go_num, by rw [HA'.out], Lib.hid (fun j hj hj2 => by omega)⟩
                case measure => simp [intOf]; omega
              · have h9' : ¬ (k : Int) < 9 := by omega
                by_cases hd0 : bt t k = 48
                · obtain rfl : d = 0 := by omega
                  have HZ : Hid (∀ j, 9 ≤ j → j < k + 1 → j < t.size → bt t j = 48) := Lib.hid (fun j hj hj2 hj3 => by
                    by_cases e : j < k
                    · exact hZ.out j hj e hj3
                    · obtain rfl : j = k := by omega
                      exact hd0)
                  clear d1 d2 hd hd0
                  go_wp2
                  go_round
                  case rel => exact ⟨k + 1, by omega, by go_num, by rw [nacc_more _ _ (by omega), HA.out], HZ⟩
                  case measure => simp [intOf]; omega
                · have hdd : (d == 0) = false := by rw [beq_eq_false_iff_ne]; omega
                  clear hd0 d1 d2 hd
                  go_wp2
                  refine bodyPost_ret (results_row_tmp1 rfl _ _ w.heap.size _ [.int .i64 0, .int .i64 0] _ rfl (two_blk w _ _ _ _ _ n1) Tryd.underlying33 rfl sTimInfo) rfl ?_
                  exact ⟨rfl, two_below _ _ _ _ _ _ _⟩
            · have h9 : k < 9 := by have := HMX.out; omega
              obtain ⟨A', hA'⟩ : ∃ A', nacc t.data.toList (k + 1) = A' := ⟨_, rfl⟩
              have hs1 := nacc_out t k h9 hkt
              rw [hA', HA.out] at hs1
              have u3 : IntKind.i64.wrap ((A : Int) * 10) = (A : Int) * 10 := IntWalk.i64_in _ (by omega)
              have u4 : IntKind.i64.wrap ((A : Int) * 10 + 0) = (A' : Int) := by rw [IntWalk.i64_in _ (by omega)]; exact hs1.symm
              have u5 : (A : Int) * 10 = (A' : Int) := by omega
              have HA' := Lib.hid hA'
              have h9' : (k : Int) < 9 := by omega
              clear hA' hs1
              go_wp2
              go_round
              case rel => exact ⟨k + 1, by omega, by go_num, by rw [HA'.out], Lib.hid (fun j hj hj2 => by omega)⟩
              case measure => simp [intOf]; omega
          · obtain rfl : k = M := by omega
            have hAn : A = n := by rw [← HA.out, nacc_all _ _ hM9]; exact HNN.out
            subst hAn
            exact absurd (fun j hj hj2 => hZ.out j hj (by omega) hj2) HZZ.out
  · have hm3 : (bt u 0 == 45) = false := by rw [beq_eq_false_iff_ne]; exact hm2
    have hm4 : (0 : Int) < (u.size : Int) := by omega
    clear hm2 HMn
    go_enter Tryd.func18, Tryd.ntmps18
    go_wp2_with (first
          | (go_at_call 36; refine (specCutI _ _ _ (by assumption) (by decide)).mono ?_; rw [HC.out]; rintro e w' ⟨rfl, n1, rfl⟩)
          | fail)
    go_loop [33] (fun v => ∃ k : Nat, k ≤ h.size ∧ v = .int .i64 k) (fun v => h.size - (intOf v).toNat)
    case atStart => exact ⟨0, by omega, rfl⟩
    case round =>
      obtain ⟨k, hk, rfl⟩ := hrel
      by_cases hlt : k < h.size
      · by_cases hz : k = 0
        · subst hz
          go_wp2
          go_round
          case rel => exact ⟨1, by omega, by go_num⟩
          case measure => simp [intOf]; omega
        · have hz1 : ((k : Int) == 0) = false := by rw [beq_eq_false_iff_ne]; omega
          by_cases hc : bt h k = 43
          · have hc1 : (bt h k == 43) = true := by rw [hc]; rfl
            clear hc
            go_wp2
            go_round
            case rel => exact ⟨k + 1, by omega, by go_num⟩
            case measure => simp [intOf]; omega
          · have hc1 : (bt h k == 43) = false := by rw [beq_eq_false_iff_ne]; exact hc
            clear hc
            go_wp2
            go_round
            case rel => exact ⟨k + 1, by omega, by go_num⟩
            case measure => simp [intOf]; omega
      · obtain rfl : k = h.size := by omega
        go_wp2_with (first
              | (go_at_call 36; refine (specCutI _ _ _ (by assumption) (by decide)).mono ?_; rw [HC.out]; rintro e w' ⟨rfl, n1, rfl⟩)
              | (go_at_call 38; refine (digs_b _ _ (by assumption)).mono ?_; (first | rw [HH.out] | rw [HT.out]); rintro e w' ⟨rfl, rfl⟩)
              | (go_at_call 37; refine (dec_yes h _ hh HDC.out).mono ?_; rw [HVL.out]; rintro e w' ⟨rfl, rfl⟩)
              | fail)
        go_loop [93, 11] (fun i a => ∃ k : Nat, k ≤ M ∧ i = .int .i64 k ∧ a = .int .i64 ((nacc t.data.toList k : Nat) : Int) ∧ Hid (∀ j, 9 ≤ j → j < k → j < t.size → bt t j = 48)) (fun i _ => M - (intOf i).toNat)
        case atStart => exact ⟨0, by omega, rfl, rfl, Lib.hid (fun j hj hj2 => by omega)⟩
        case round =>
          obtain ⟨k, hk, rfl, rfl, hZ⟩ := hrel
          obtain ⟨A, hA⟩ : ∃ A, nacc t.data.toList k = A := ⟨_, rfl⟩
          have hA9 : A ≤ 999999999 := by rw [← hA]; have := nacc_le t.data.toList k; have := HNN.out; omega
          rw [hA]
          have HA := Lib.hid hA
          clear hA
          by_cases hkM : k < M
          · by_cases hkt : k < t.size
            · obtain ⟨d1, d2⟩ := HDG.out k hkt
              obtain ⟨d, hd⟩ : ∃ d : Int, bt t k = 48 + d := ⟨bt t k - 48, by omega⟩
              have u1 : IntKind.u8.wrap (bt t k - 48) = d := by rw [IntWalk.u8_in _ ⟨by omega, by omega⟩]; omega
              have u2 : IntKind.i64.wrap d = d := IntWalk.i64_in _ (by omega)
              have u3 : IntKind.i64.wrap ((A : Int) * 10) = (A : Int) * 10 := IntWalk.i64_in _ (by omega)
              by_cases h9 : k < 9
              · obtain ⟨A', hA'⟩ : ∃ A', nacc t.data.toList (k + 1) = A' := ⟨_, rfl⟩
                have hs1 := nacc_in t k h9 hkt d hd (by omega)
                rw [hA', HA.out] at hs1
                have u4 : IntKind.i64.wrap ((A : Int) * 10 + d) = (A' : Int) := by rw [IntWalk.i64_in _ (by omega)]; exact hs1.symm
                have HA' := Lib.hid hA'
                have h9' : (k : Int) < 9 := by omega
                clear hA' hs1 d1 d2 hd
                go_wp2
                go_round
                case rel => exact ⟨k + 1, by omega, by go_num, by rw [HA'.out], Lib.hid (fun j hj hj2 => by omega)⟩
                case measure => simp [intOf]; omega
              · have h9' : ¬ (k : Int) < 9 := by omega
                by_cases hd0 : bt t k = 48
                · obtain rfl : d = 0 := by omega
                  have HZ : Hid (∀ j, 9 ≤ j → j < k + 1 → j < t.size → bt t j = 48) := Lib.hid (fun j hj hj2 hj3 => by
                    by_cases e : j < k
                    · exact hZ.out j hj e hj3
                    · obtain rfl : j = k := by omega
                      exact hd0)
                  clear d1 d2 hd hd0
                  go_wp2
                  go_round
                  case rel => exact ⟨k + 1, by omega, by go_num, by rw [nacc_more _ _ (by omega), HA.out], HZ⟩
                  case measure => simp [intOf]; omega
                · have hdd : (d == 0) = false := by rw [beq_eq_false_iff_ne]; omega
                  clear hd0 d1 d2 hd
                  go_wp2
                  refine bodyPost_ret (results_row_tmp1 rfl _ _ w.heap.size _ [.int .i64 0, .int .i64 0] _ rfl (two_blk w _ _ _ _ _ n1) Tryd.underlying33 rfl sTimInfo) rfl ?_
                  exact ⟨rfl, two_below _ _ _ _ _ _ _⟩
            · have h9 : k < 9 := by have := HMX.out; omega
              obtain ⟨A', hA'⟩ : ∃ A', nacc t.data.toList (k + 1) = A' := ⟨_, rfl⟩
              have hs1 := nacc_out t k h9 hkt
              rw [hA', HA.out] at hs1
              have u3 : IntKind.i64.wrap ((A : Int) * 10) = (A : Int) * 10 := IntWalk.i64_in _ (by omega)
              have u4 : IntKind.i64.wrap ((A : Int) * 10 + 0) = (A' : Int) := by rw [IntWalk.i64_in _ (by omega)]; exact hs1.symm
              have u5 : (A : Int) * 10 = (A' : Int) := by omega
              have HA' := Lib.hid hA'
              have h9' : (k : Int) < 9 := by omega
              clear hA' hs1
              go_wp2
              go_round
              case rel => exact ⟨k + 1, by omega, by go_num, by rw [HA'.out], Lib.hid (fun j hj hj2 => by omega)⟩
              case measure => simp [intOf]; omega
          · obtain rfl : k = M := by omega
            have hAn : A = n := by rw [← HA.out, nacc_all _ _ hM9]; exact HNN.out
            subst hAn
            exact absurd (fun j hj hj2 => hZ.out j hj (by omega) hj2) HZZ.out
end Go.Proofs.YtlchagphjmfooaaDoor
