/- spec.width and spec.UTF8: they answer; what is UTF-8 has no byte 0. spec.recordFits: what its verdicts tell. spec.text and spec.owner at format 2 (PAX). FnAllowed: the plain law. FnAllowed: the plain law, format by format. FnAllowed: the plain law as the walk wants it. -/
import Derived.Test.YtepeehjajhehfaaGreatDoorMA2
import Derived.Laws.BitsAllLaws
import Derived.Test.YtepeehjajhehfaaGreatDoorMA8
import Derived.Test.YtepeehjajhehfaaGreatDoorAqa
import Derived.Test.YtepeehjajhehfaaGreatDoorApy
import Derived.Test.YtepeehjajhehfaaGreatDoorMB4
namespace Go.Proofs.YtepeehjajhehfaaGreatDoor
open Go.RowKit Go.PlainAid
set_option linter.unusedVariables false

/-- So many bytes at the beginning, none of them but the first may be 0. -/
def WidR (s : ByteArray) (n : Nat) : Prop := n ≤ s.size ∧ ∀ j, 1 ≤ j → j < n → bt s j ≠ 0
def WidP (s : ByteArray) (w : World) (e : Ending) (w' : World) : Prop := ∃ n : Nat, e = .returned (.int .i64 n) ∧ WidR s n ∧ w = w'
theorem widR0 (s : ByteArray) : WidR s 0 := ⟨by omega, fun j h1 h2 => by omega⟩
theorem and_zero : bits .and .u8 0 192 = 0 := by decide
set_option maxRecDepth 20000 in
set_option maxHeartbeats 1600000 in
theorem width1 (s : ByteArray) (w : World) (h0 : 0 < s.size) (hs : s.size ≤ 4611686018427387904) (h1 : bt s 0 < 128) :
    Calls Tryz.prog 57 #[.string s] w (WidP s w) := by
  have hb := get_bt s
  have h0' : (0 : Int) < (s.size : Int) := by omega
  obtain ⟨c, hc, hwr⟩ : ∃ c, bt s 0 = c ∧ IntKind.i64.wrap c = c := ⟨_, rfl, IntWalk.i64_in _ (by have := bt_nonneg s 0; have := bt_le s 0; omega)⟩
  have HR : Hid (WidR s 1) := Lib.hid ⟨by omega, fun j h1 h2 => by omega⟩
  rw [hc] at h1
  go_enter Tryz.func57, Tryz.ntmps57
  go_wp2
  go_ret
  exact ⟨1, rfl, HR.out, rfl⟩
set_option maxRecDepth 20000 in
set_option maxHeartbeats 1600000 in
theorem width0a (s : ByteArray) (w : World) (h0 : 0 < s.size) (hs : s.size ≤ 4611686018427387904) (h1 : 128 ≤ bt s 0) (h2 : bt s 0 < 194) :
    Calls Tryz.prog 57 #[.string s] w (WidP s w) := by
  have hb := get_bt s
  have h0' : (0 : Int) < (s.size : Int) := by omega
  obtain ⟨c, hc, hwr⟩ : ∃ c, bt s 0 = c ∧ IntKind.i64.wrap c = c := ⟨_, rfl, IntWalk.i64_in _ (by have := bt_nonneg s 0; have := bt_le s 0; omega)⟩
  have HR : Hid (WidR s 0) := Lib.hid (widR0 s)
  rw [hc] at h1 h2
  go_enter Tryz.func57, Tryz.ntmps57
  go_wp2
  go_ret
  exact ⟨0, rfl, HR.out, rfl⟩
set_option maxRecDepth 20000 in
set_option maxHeartbeats 1600000 in
theorem width0b (s : ByteArray) (w : World) (h0 : 0 < s.size) (hs : s.size ≤ 4611686018427387904) (h1 : 245 ≤ bt s 0) :
    Calls Tryz.prog 57 #[.string s] w (WidP s w) := by
  have hb := get_bt s
  have h0' : (0 : Int) < (s.size : Int) := by omega
  obtain ⟨c, hc, hwr⟩ : ∃ c, bt s 0 = c ∧ IntKind.i64.wrap c = c := ⟨_, rfl, IntWalk.i64_in _ (by have := bt_nonneg s 0; have := bt_le s 0; omega)⟩
  have HR : Hid (WidR s 0) := Lib.hid (widR0 s)
  rw [hc] at h1
  go_enter Tryz.func57, Tryz.ntmps57
  go_wp2
  go_ret
  exact ⟨0, rfl, HR.out, rfl⟩
set_option maxRecDepth 20000 in
set_option maxHeartbeats 1600000 in
theorem width2 (s : ByteArray) (w : World) (h0 : 0 < s.size) (hs : s.size ≤ 4611686018427387904) (h1 : 194 ≤ bt s 0) (h2 : bt s 0 < 224) :
    Calls Tryz.prog 57 #[.string s] w (WidP s w) := by
  have hb := get_bt s
  have h0' : (0 : Int) < (s.size : Int) := by omega
  obtain ⟨c, hc, hwr⟩ : ∃ c, bt s 0 = c ∧ IntKind.i64.wrap c = c := ⟨_, rfl, IntWalk.i64_in _ (by have := bt_nonneg s 0; have := bt_le s 0; omega)⟩
  have HR0 : Hid (WidR s 0) := Lib.hid (widR0 s)
  rw [hc] at h1 h2
  by_cases hn : s.size < 2
  · have hn' : (s.size : Int) < 2 := by omega
    go_enter Tryz.func57, Tryz.ntmps57
    go_wp2
    go_ret
    exact ⟨0, rfl, HR0.out, rfl⟩
  have hn' : ¬ (s.size : Int) < 2 := by omega
  go_enter Tryz.func57, Tryz.ntmps57
  go_wp2
  go_loopw [5, 7] (fun v i wr => ∃ (k : Nat) (y : Int), 1 ≤ k ∧ k ≤ 2 ∧ i = .int .i64 k ∧ v = .int .i64 y ∧ Hid (∀ j, 1 ≤ j → j < k → bt s j ≠ 0) ∧ Hid (w = wr)) (fun _ i _ => 2 - (intOf i).toNat)
  case atStart => exact ⟨1, _, by omega, by omega, rfl, rfl, Lib.hid (fun j h1 h2 => by omega), Lib.hid rfl⟩
  case round =>
    obtain ⟨k, y, hk1, hk, rfl, rfl, HK, hw⟩ := hrel
    have hw' := hw.out
    clear hw
    subst hw'
    by_cases hlt : k < 2
    · have hks : (k : Int) < (s.size : Int) := by omega
      have hks2 : k < s.size := by omega
      have hlt' : (k : Int) < 2 := by omega
      obtain ⟨m, hm⟩ : ∃ m, bits .and .u8 (bt s k) 192 = m := ⟨_, rfl⟩
      obtain ⟨m2, hm2⟩ : ∃ m, bits .and .u8 (bt s k) 63 = m := ⟨_, rfl⟩
      by_cases h128 : m = 128
      · subst h128
        have HN : Hid (∀ j, 1 ≤ j → j < k + 1 → bt s j ≠ 0) := Lib.hid (fun j h1 h2 => by
          by_cases hj : j < k
          · exact HK.out j h1 hj
          · obtain rfl : j = k := by omega
            intro h
            rw [h, and_zero] at hm
            cases hm)
        go_wp2
        go_roundw
        case rel => exact ⟨k + 1, _, by omega, by omega, by go_num, rfl, HN, Lib.hid (by first | trivial | rfl)⟩
        case measure => simp [intOf]; omega
      · have h128' : (m == 128) = false := by simpa using h128
        have h128b : (m != 128) = true := by unfold bne; rw [h128']; rfl
        go_wp2
        go_ret
        exact ⟨0, rfl, HR0.out, rfl⟩
    · obtain rfl : k = 2 := by omega
      have HRN : Hid (WidR s 2) := Lib.hid ⟨by omega, HK.out⟩
      by_cases a1 : y < 128
      · go_wp2
        go_ret
        exact ⟨0, rfl, HR0.out, rfl⟩
      by_cases a2 : 1114111 < y
      · go_wp2
        go_ret
        exact ⟨0, rfl, HR0.out, rfl⟩
      by_cases a3 : 55296 ≤ y
      · by_cases a4 : y < 57344
        · go_wp2
          go_ret
          exact ⟨0, rfl, HR0.out, rfl⟩
        · go_wp2
          go_ret
          exact ⟨2, rfl, HRN.out, rfl⟩
      · go_wp2
        go_ret
        exact ⟨2, rfl, HRN.out, rfl⟩
set_option maxRecDepth 20000 in
set_option maxHeartbeats 1600000 in
theorem width3 (s : ByteArray) (w : World) (h0 : 0 < s.size) (hs : s.size ≤ 4611686018427387904) (h1 : 224 ≤ bt s 0) (h2 : bt s 0 < 240) :
    Calls Tryz.prog 57 #[.string s] w (WidP s w) := by
  have hb := get_bt s
  have h0' : (0 : Int) < (s.size : Int) := by omega
  obtain ⟨c, hc, hwr⟩ : ∃ c, bt s 0 = c ∧ IntKind.i64.wrap c = c := ⟨_, rfl, IntWalk.i64_in _ (by have := bt_nonneg s 0; have := bt_le s 0; omega)⟩
  have HR0 : Hid (WidR s 0) := Lib.hid (widR0 s)
  rw [hc] at h1 h2
  by_cases hn : s.size < 3
  · have hn' : (s.size : Int) < 3 := by omega
    go_enter Tryz.func57, Tryz.ntmps57
    go_wp2
    go_ret
    exact ⟨0, rfl, HR0.out, rfl⟩
  have hn' : ¬ (s.size : Int) < 3 := by omega
  go_enter Tryz.func57, Tryz.ntmps57
  go_wp2
  go_loopw [5, 7] (fun v i wr => ∃ (k : Nat) (y : Int), 1 ≤ k ∧ k ≤ 3 ∧ i = .int .i64 k ∧ v = .int .i64 y ∧ Hid (∀ j, 1 ≤ j → j < k → bt s j ≠ 0) ∧ Hid (w = wr)) (fun _ i _ => 3 - (intOf i).toNat)
  case atStart => exact ⟨1, _, by omega, by omega, rfl, rfl, Lib.hid (fun j h1 h2 => by omega), Lib.hid rfl⟩
  case round =>
    obtain ⟨k, y, hk1, hk, rfl, rfl, HK, hw⟩ := hrel
    have hw' := hw.out
    clear hw
    subst hw'
    by_cases hlt : k < 3
    · have hks : (k : Int) < (s.size : Int) := by omega
      have hks2 : k < s.size := by omega
      have hlt' : (k : Int) < 3 := by omega
      obtain ⟨m, hm⟩ : ∃ m, bits .and .u8 (bt s k) 192 = m := ⟨_, rfl⟩
      obtain ⟨m2, hm2⟩ : ∃ m, bits .and .u8 (bt s k) 63 = m := ⟨_, rfl⟩
      by_cases h128 : m = 128
      · subst h128
        have HN : Hid (∀ j, 1 ≤ j → j < k + 1 → bt s j ≠ 0) := Lib.hid (fun j h1 h2 => by
          by_cases hj : j < k
          · exact HK.out j h1 hj
          · obtain rfl : j = k := by omega
            intro h
            rw [h, and_zero] at hm
            cases hm)
        go_wp2
        go_roundw
        case rel => exact ⟨k + 1, _, by omega, by omega, by go_num, rfl, HN, Lib.hid (by first | trivial | rfl)⟩
        case measure => simp [intOf]; omega
      · have h128' : (m == 128) = false := by simpa using h128
        have h128b : (m != 128) = true := by unfold bne; rw [h128']; rfl
        go_wp2
        go_ret
        exact ⟨0, rfl, HR0.out, rfl⟩
    · obtain rfl : k = 3 := by omega
      have HRN : Hid (WidR s 3) := Lib.hid ⟨by omega, HK.out⟩
      by_cases a1 : y < 2048
      · go_wp2
        go_ret
        exact ⟨0, rfl, HR0.out, rfl⟩
      by_cases a2 : 1114111 < y
      · go_wp2
        go_ret
        exact ⟨0, rfl, HR0.out, rfl⟩
      by_cases a3 : 55296 ≤ y
      · by_cases a4 : y < 57344
        · go_wp2
          go_ret
          exact ⟨0, rfl, HR0.out, rfl⟩
        · go_wp2
          go_ret
          exact ⟨3, rfl, HRN.out, rfl⟩
      · go_wp2
        go_ret
        exact ⟨3, rfl, HRN.out, rfl⟩
set_option maxRecDepth 20000 in
set_option maxHeartbeats 1600000 in
theorem width4 (s : ByteArray) (w : World) (h0 : 0 < s.size) (hs : s.size ≤ 4611686018427387904) (h1 : 240 ≤ bt s 0) (h2 : bt s 0 < 245) :
    Calls Tryz.prog 57 #[.string s] w (WidP s w) := by
  have hb := get_bt s
  have h0' : (0 : Int) < (s.size : Int) := by omega
  obtain ⟨c, hc, hwr⟩ : ∃ c, bt s 0 = c ∧ IntKind.i64.wrap c = c := ⟨_, rfl, IntWalk.i64_in _ (by have := bt_nonneg s 0; have := bt_le s 0; omega)⟩
  have HR0 : Hid (WidR s 0) := Lib.hid (widR0 s)
  rw [hc] at h1 h2
  by_cases hn : s.size < 4
  · have hn' : (s.size : Int) < 4 := by omega
    go_enter Tryz.func57, Tryz.ntmps57
    go_wp2
    go_ret
    exact ⟨0, rfl, HR0.out, rfl⟩
  have hn' : ¬ (s.size : Int) < 4 := by omega
  go_enter Tryz.func57, Tryz.ntmps57
  go_wp2
  go_loopw [5, 7] (fun v i wr => ∃ (k : Nat) (y : Int), 1 ≤ k ∧ k ≤ 4 ∧ i = .int .i64 k ∧ v = .int .i64 y ∧ Hid (∀ j, 1 ≤ j → j < k → bt s j ≠ 0) ∧ Hid (w = wr)) (fun _ i _ => 4 - (intOf i).toNat)
  case atStart => exact ⟨1, _, by omega, by omega, rfl, rfl, Lib.hid (fun j h1 h2 => by omega), Lib.hid rfl⟩
  case round =>
    obtain ⟨k, y, hk1, hk, rfl, rfl, HK, hw⟩ := hrel
    have hw' := hw.out
    clear hw
    subst hw'
    by_cases hlt : k < 4
    · have hks : (k : Int) < (s.size : Int) := by omega
      have hks2 : k < s.size := by omega
      have hlt' : (k : Int) < 4 := by omega
      obtain ⟨m, hm⟩ : ∃ m, bits .and .u8 (bt s k) 192 = m := ⟨_, rfl⟩
      obtain ⟨m2, hm2⟩ : ∃ m, bits .and .u8 (bt s k) 63 = m := ⟨_, rfl⟩
      by_cases h128 : m = 128
      · subst h128
        have HN : Hid (∀ j, 1 ≤ j → j < k + 1 → bt s j ≠ 0) := Lib.hid (fun j h1 h2 => by
          by_cases hj : j < k
          · exact HK.out j h1 hj
          · obtain rfl : j = k := by omega
            intro h
            rw [h, and_zero] at hm
            cases hm)
        go_wp2
        go_roundw
        case rel => exact ⟨k + 1, _, by omega, by omega, by go_num, rfl, HN, Lib.hid (by first | trivial | rfl)⟩
        case measure => simp [intOf]; omega
      · have h128' : (m == 128) = false := by simpa using h128
        have h128b : (m != 128) = true := by unfold bne; rw [h128']; rfl
        go_wp2
        go_ret
        exact ⟨0, rfl, HR0.out, rfl⟩
    · obtain rfl : k = 4 := by omega
      have HRN : Hid (WidR s 4) := Lib.hid ⟨by omega, HK.out⟩
      by_cases a1 : y < 65536
      · go_wp2
        go_ret
        exact ⟨0, rfl, HR0.out, rfl⟩
      by_cases a2 : 1114111 < y
      · go_wp2
        go_ret
        exact ⟨0, rfl, HR0.out, rfl⟩
      by_cases a3 : 55296 ≤ y
      · by_cases a4 : y < 57344
        · go_wp2
          go_ret
          exact ⟨0, rfl, HR0.out, rfl⟩
        · go_wp2
          go_ret
          exact ⟨4, rfl, HRN.out, rfl⟩
      · go_wp2
        go_ret
        exact ⟨4, rfl, HRN.out, rfl⟩
theorem specWidth (s : ByteArray) (w : World) (h0 : 0 < s.size) (hs : s.size ≤ 4611686018427387904) : Calls Tryz.prog 57 #[.string s] w (WidP s w) := by
  by_cases h1 : bt s 0 < 128
  · exact width1 s w h0 hs h1
  by_cases h2 : bt s 0 < 194
  · exact width0a s w h0 hs (by omega) h2
  by_cases h3 : bt s 0 < 224
  · exact width2 s w h0 hs (by omega) h3
  by_cases h4 : bt s 0 < 240
  · exact width3 s w h0 hs (by omega) h4
  by_cases h5 : bt s 0 < 245
  · exact width4 s w h0 hs (by omega) h5
  exact width0b s w h0 hs (by omega)
theorem utf_size (s : ByteArray) (i j : Nat) (hj : j ≤ s.size) : (s.extract i j).size = j - i := by
  rw [ByteArray.size_extract]; omega
theorem utf_ext (s : ByteArray) (i j k : Nat) (hj : j ≤ s.size) (hk : k < j - i) : bt (s.extract i j) k = bt s (i + k) := by
  obtain ⟨c, h1, h2⟩ := bt_of (s.extract i j) k (by rw [utf_size _ _ _ hj]; exact hk)
  obtain ⟨d, h3, h4⟩ := bt_of s (i + k) (by omega)
  rw [Lib.extract_data, List.getElem?_take, if_pos hk, List.getElem?_drop, h3] at h1
  rw [h2, h4, Option.some.inj h1]
def UtfP (s : ByteArray) (w : World) (e : Ending) (w' : World) : Prop := ∃ b : Bool, e = .returned (.bool b) ∧ (b = true → ∀ i, i < s.size → bt s i ≠ 0) ∧ w = w'
set_option maxRecDepth 20000 in
set_option maxHeartbeats 1600000 in
theorem specUTF8 (s : ByteArray) (w : World) (hs : s.size ≤ 4611686018427387904) :
    Calls Tryz.prog 41 #[.string s] w (UtfP s w) := by
  have hb := get_bt s
  go_enter Tryz.func41, Tryz.ntmps41
  go_wp2
  go_loopw [3] (fun i wr => ∃ k : Nat, k ≤ s.size ∧ i = .int .i64 k ∧ Hid (∀ j, j < k → bt s j ≠ 0) ∧ Hid (w = wr)) (fun i _ => s.size - (intOf i).toNat)
  case atStart => exact ⟨0, by omega, rfl, Lib.hid (fun j h => by omega), Lib.hid rfl⟩
  case round =>
    obtain ⟨k, hk, rfl, HK, hw⟩ := hrel
    have hw' := hw.out
    clear hw
    subst hw'
    by_cases hlt : k < s.size
    · have hlt' : (k : Int) < (s.size : Int) := by omega
      have HWD : Hid (Calls Tryz.prog 57 #[.string (s.extract k s.size)] w (WidP (s.extract k s.size) w)) := Lib.hid (specWidth (s.extract k s.size) w (by rw [utf_size _ _ _ (Nat.le_refl _)]; omega) (by rw [utf_size _ _ _ (Nat.le_refl _)]; omega))
      go_wp2_with fail
      refine HWD.out.mono ?_
      rintro e w' ⟨n, rfl, hn, hw9⟩
      subst hw9
      have HN := Lib.hid hn
      clear hn
      by_cases hz : n = 0
      · subst hz
        go_wp2
        go_ret
        exact ⟨false, rfl, (fun h => by cases h), rfl⟩
      have hz' : ((n : Int) == 0) = false := by rw [beq_eq_false_iff_ne]; omega
      by_cases hc : bt s k = 0
      · have hc' : (bt s k == 0) = true := by rw [hc]; rfl
        clear hc
        go_wp2
        go_ret
        exact ⟨false, rfl, (fun h => by cases h), rfl⟩
      have HC := Lib.hid hc
      have hc' : (bt s k == 0) = false := by rw [beq_eq_false_iff_ne]; exact hc
      have hle : k + n ≤ s.size := by have h := HN.out.1; rw [utf_size _ _ _ (Nat.le_refl _)] at h; omega
      have HK2 : Hid (∀ j, j < k + n → bt s j ≠ 0) := Lib.hid (fun j hj => by
        by_cases h1 : j < k
        · exact HK.out j h1
        · by_cases h2 : j = k
          · subst h2; exact HC.out
          · have h3 := HN.out.2 (j - k) (by omega) (by omega)
            rw [utf_ext _ _ _ _ (Nat.le_refl _) (by omega)] at h3
            rwa [show k + (j - k) = j by omega] at h3)
      have hnp : 0 < n := by omega
      clear hc hz
      go_wp2
      go_roundw
      case rel => exact ⟨k + n, hle, by go_num, HK2, Lib.hid (by first | trivial | rfl)⟩
      case measure => simp [intOf]; omega
    · obtain rfl : k = s.size := by omega
      go_wp2
      go_ret
      exact ⟨true, rfl, fun _ => HK.out, rfl⟩
end Go.Proofs.YtepeehjajhehfaaGreatDoor
namespace Go.Proofs.YtepeehjajhehfaaGreatDoor
open Go.RowKit Go.PlainAid
set_option linter.unusedVariables false

/-- A key of the form VENDOR.keyword. -/
structure VendorKey (k : ByteArray) : Prop where
  pos : k.size ≠ 0
  noeq : ∀ i, i < k.size → bt k i ≠ 61
  nonul : ∀ i, i < k.size → bt k i ≠ 0
  nosp : spk k = false
  upper : 65 ≤ bt k 0 ∧ bt k 0 ≤ 90
  dot : fc 46 k < k.size
/-- A key that no record may have. -/
def BadKey (k : ByteArray) : Prop := spk k = false ∧ ((∃ i, i < k.size ∧ bt k i = 61) ∨ k.size = 0)
def RfR (k v : ByteArray) (x : Int) : Prop := x = 0 ∨ (x = 2 ∧ BadKey k) ∨ (x = 1 ∧ VendorKey k ∧ ∀ i, i < v.size → bt v i ≠ 0)
def RfP (k v : ByteArray) (w : World) (e : Ending) (w' : World) : Prop := ∃ x, e = .returned (.int .i64 x) ∧ RfR k v x ∧ Below w.heap.size w w'
theorem rf_emp_yes {h : ByteArray} (h0 : h.size = 0) : h.toList = [] ∧ h.toList.isEmpty = true := by
  have e := Lib.size_eq h
  have : h.toList = [] := by rw [Lib.toList_data]; exact List.eq_nil_of_length_eq_zero (by omega)
  exact ⟨this, by rw [this]; rfl⟩
theorem rf_emp_no {h : ByteArray} (h0 : ¬ h.size = 0) : ¬ h.toList = [] ∧ h.toList.isEmpty = false := by
  have e := Lib.size_eq h
  have : ¬ h.toList = [] := by rw [Lib.toList_data]; intro hh; rw [hh] at e; exact h0 e
  exact ⟨this, by cases hl : h.toList with
    | nil => exact absurd hl this
    | cons a b => rfl⟩
theorem cut46_yes (k : ByteArray) (w : World) (hs : k.size ≤ 4611686018427387904) (h : fc 46 k < k.size) : Calls Tryz.prog 44 #[.string k, .int .u8 46] w (Quietly (.tuple #[.string (k.extract 0 (fc 46 k)), .string (k.extract (fc 46 k + 1) k.size), .bool true]) w) := by
  have e : cutV 46 k = .tuple #[.string (k.extract 0 (fc 46 k)), .string (k.extract (fc 46 k + 1) k.size), .bool true] := by unfold cutV; rw [if_pos h]
  rw [← e]
  exact specCut k 46 w hs
theorem cut46_no (k : ByteArray) (w : World) (hs : k.size ≤ 4611686018427387904) (h : ¬ fc 46 k < k.size) : Calls Tryz.prog 44 #[.string k, .int .u8 46] w (Quietly (.tuple #[.string k, .string ⟨#[]⟩, .bool false]) w) := by
  have e : cutV 46 k = .tuple #[.string k, .string ⟨#[]⟩, .bool false] := by unfold cutV; rw [if_neg h]
  rw [← e]
  exact specCut k 46 w hs
set_option maxRecDepth 20000 in
set_option maxHeartbeats 4000000 in
theorem specRecordFits (k v : ByteArray) (w : World) (hk : k.size ≤ 2147483647) (hv : v.size ≤ 2147483647) :
    Calls Tryz.prog 28 #[.agg #[.string k, .string v]] w (RfP k v w) := by
  have HB0 : Hid (Blk (w.alloc (.cells #[.string k, .string v] 60)) w.heap.size 60 [.string k, .string v]) := Lib.hid (Blk.new w _ _)
  have HW0 : Hid (Below w.heap.size w (w.alloc (.cells #[.string k, .string v] 60))) := Lib.hid ((Below.refl _ _).alloc (Nat.le_refl _) _)
  have hbk := get_bt k
  obtain ⟨sp, hsp⟩ : ∃ b, spk k = b := ⟨_, rfl⟩
  have HSK := fun w => Lib.hid (sparseKey_any k sp w (by omega) (Lib.hid hsp))
  have HSP := Lib.hid hsp
  have HUK := fun w => Lib.hid (specUTF8 k w (by omega))
  have HUV := fun w => Lib.hid (specUTF8 v w (by omega))
  clear hsp
  go_enter Tryz.func28, Tryz.ntmps28
  go_upto_region 1 with fail
  generalize w.alloc (.cells #[.string k, .string v] 60) = w1 at HB0 HW0 ⊢
  obtain ⟨H, hH⟩ : ∃ H, w.heap.size = H := ⟨_, rfl⟩
  rw [hH] at HB0
  rw [hH]
  have HH := Lib.hid hH
  clear hH
  have c0 : w1.cell? ⟨H, 0, none⟩ = some (.string k) := HB0.out.cell 0
  have c1 : w1.cell? ⟨H, 1, none⟩ = some (.string v) := HB0.out.cell 1
  go_wp2_with fail
  refine (HSK _).out.mono ?_
  rintro e w' ⟨rfl, hw9⟩
  subst hw9
  cases sp with
  | true =>
    go_wp2
    go_ret
    exact ⟨0, rfl, .inl rfl, HW0.out⟩
  | false =>
  go_wp2
  go_loopw [14] (fun i wr => ∃ j : Nat, j ≤ k.size ∧ i = .int .i64 j ∧ Hid (∀ i, i < j → bt k i ≠ 61) ∧ Hid (w1 = wr)) (fun i _ => k.size - (intOf i).toNat)
  case atStart => exact ⟨0, by omega, rfl, Lib.hid (fun i h => by omega), Lib.hid rfl⟩
  case round =>
    obtain ⟨j, hj, rfl, HJ, hw⟩ := hrel
    have hw' := hw.out
    clear hw
    subst hw'
    by_cases hlt : j < k.size
    · have hlt' : (j : Int) < (k.size : Int) := by omega
      by_cases hc : bt k j = 61
      · have HBK : Hid (BadKey k) := Lib.hid ⟨HSP.out, .inl ⟨j, hlt, hc⟩⟩
        go_wp2
        go_ret
        exact ⟨2, rfl, .inr (.inl ⟨rfl, HBK.out⟩), HW0.out⟩
      · have HC := Lib.hid hc
        have hc' : (bt k j == 61) = false := by rw [beq_eq_false_iff_ne]; exact hc
        have HJ2 : Hid (∀ i, i < j + 1 → bt k i ≠ 61) := Lib.hid (fun i hi => by
          by_cases h1 : i < j
          · exact HJ.out i h1
          · obtain rfl : i = j := by omega
            exact HC.out)
        clear hc
        go_wp2
        go_roundw
        case rel => exact ⟨j + 1, by omega, by go_num, HJ2, Lib.hid (by first | trivial | rfl)⟩
        case measure => simp [intOf]; omega
    · obtain rfl : j = k.size := by omega
      by_cases hz : k.size = 0
      · have HBK : Hid (BadKey k) := Lib.hid ⟨HSP.out, .inr hz⟩
        obtain ⟨n1, n2⟩ := rf_emp_yes hz
        clear hz
        go_wp2
        go_ret
        exact ⟨2, rfl, .inr (.inl ⟨rfl, HBK.out⟩), HW0.out⟩
      have HZ := Lib.hid hz
      obtain ⟨n1, n2⟩ := rf_emp_no hz
      by_cases hvz : v.size = 0
      · obtain ⟨m1, m2⟩ := rf_emp_yes hvz
        clear hvz hz
        go_wp2
        go_ret
        exact ⟨0, rfl, .inl rfl, HW0.out⟩
      obtain ⟨m1, m2⟩ := rf_emp_no hvz
      clear hvz
      go_wp2_with fail
      refine (HUK _).out.mono ?_
      rintro e w' ⟨b1, rfl, hb1, hw9⟩
      subst hw9
      have HB1 := Lib.hid hb1
      clear hb1
      cases b1 with
      | false =>
        go_wp2
        go_ret
        exact ⟨0, rfl, .inl rfl, HW0.out⟩
      | true =>
      have HNN : Hid (∀ i, i < k.size → bt k i ≠ 0) := Lib.hid (HB1.out rfl)
      go_wp2_with fail
      refine (HUV _).out.mono ?_
      rintro e w' ⟨b2, rfl, hb2, hw9⟩
      subst hw9
      have HB2 := Lib.hid hb2
      clear hb2
      cases b2 with
      | false =>
        go_wp2
        go_ret
        exact ⟨0, rfl, .inl rfl, HW0.out⟩
      | true =>
      have HVN : Hid (∀ i, i < v.size → bt v i ≠ 0) := Lib.hid (HB2.out rfl)
      obtain ⟨q, hq⟩ : ∃ q, ((k.extract 0 7).toList == [83, 67, 72, 73, 76, 89, 46]) = q := ⟨_, rfl⟩
      have HFC : Hid (fc 46 k < k.size → Calls Tryz.prog 44 #[.string k, .int .u8 46] w1 (Quietly (.tuple #[.string (k.extract 0 (fc 46 k)), .string (k.extract (fc 46 k + 1) k.size), .bool true]) w1)) := Lib.hid (fun h => cut46_yes k w1 (by omega) h)
      have HFN : Hid (¬ fc 46 k < k.size → Calls Tryz.prog 44 #[.string k, .int .u8 46] w1 (Quietly (.tuple #[.string k, .string ⟨#[]⟩, .bool false]) w1)) := Lib.hid (fun h => cut46_no k w1 (by omega) h)
      by_cases hs7 : (7 : Int) ≤ (k.size : Int)
      · cases q with
        | true =>
          go_wp2
          go_ret
          exact ⟨0, rfl, .inl rfl, HW0.out⟩
        | false =>
          by_cases hdot : fc 46 k < k.size
          · have HD := Lib.hid hdot
            have HCC := Lib.hid (HFC.out hdot)
            obtain ⟨d, hd⟩ : ∃ d, fc 46 k = d := ⟨_, rfl⟩
            rw [hd] at HCC hdot
            have HDD := Lib.hid hd
            clear hd HFC HFN
            go_wp2_with fail
            refine HCC.out.mono ?_
            rintro e w' ⟨rfl, m, rfl⟩
            have HW2 : Hid (Below w.heap.size w (w1.drewN m)) := Lib.hid (below_drewN HW0.out m)
            generalize w1.drewN m = w2 at HW2 ⊢
            obtain ⟨V, hV⟩ : ∃ V, k.extract 0 d = V := ⟨_, rfl⟩
            obtain ⟨Y, hY⟩ : ∃ Y, k.extract (d + 1) k.size = Y := ⟨_, rfl⟩
            rw [hV, hY]
            have hVs : V.size = d := by rw [← hV, utf_size _ _ _ (by omega)]; omega
            have HVB : Hid (∀ i, i < d → bt V i = bt k i) := Lib.hid (fun i hi => by rw [← hV, utf_ext _ _ _ _ (by omega) (by omega), Nat.zero_add])
            have hbV := get_bt V
            clear hV hY
            by_cases hd0 : V.size = 0
            · obtain ⟨p1, p2⟩ := rf_emp_yes hd0
              clear hd0 hVs
              go_wp2
              go_ret
              exact ⟨0, rfl, .inl rfl, HW2.out⟩
            have HD0 := Lib.hid hd0
            obtain ⟨p1, p2⟩ := rf_emp_no hd0
            by_cases hy0 : Y.size = 0
            · obtain ⟨r1, r2⟩ := rf_emp_yes hy0
              clear hy0
              go_wp2
              go_ret
              exact ⟨0, rfl, .inl rfl, HW2.out⟩
            obtain ⟨r1, r2⟩ := rf_emp_no hy0
            clear hy0
            go_wp2
            go_loopw [72] (fun i wr => ∃ j : Nat, j ≤ V.size ∧ i = .int .i64 j ∧ Hid (∀ i, i < j → 65 ≤ bt V i ∧ bt V i ≤ 90) ∧ Hid (w2 = wr)) (fun i _ => V.size - (intOf i).toNat)
            case atStart => exact ⟨0, by omega, rfl, Lib.hid (fun i h => by omega), Lib.hid rfl⟩
            case round =>
              obtain ⟨j, hj2, rfl, HU, hw⟩ := hrel
              have hw' := hw.out
              clear hw
              subst hw'
              by_cases hlt2 : j < V.size
              · have hlt3 : (j : Int) < (V.size : Int) := by omega
                by_cases u1 : bt V j < 65
                · go_wp2
                  go_ret
                  exact ⟨0, rfl, .inl rfl, HW2.out⟩
                by_cases u2 : 90 < bt V j
                · go_wp2
                  go_ret
                  exact ⟨0, rfl, .inl rfl, HW2.out⟩
                have HU2 : Hid (∀ i, i < j + 1 → 65 ≤ bt V i ∧ bt V i ≤ 90) := Lib.hid (fun i hi => by
                  by_cases h1 : i < j
                  · exact HU.out i h1
                  · obtain rfl : i = j := by omega
                    exact ⟨by omega, by omega⟩)
                go_wp2
                go_roundw
                case rel => exact ⟨j + 1, by omega, by go_num, HU2, Lib.hid (by first | trivial | rfl)⟩
                case measure => simp [intOf]; omega
              · have HVK : Hid (VendorKey k) := Lib.hid ⟨HZ.out, HJ.out, HNN.out, HSP.out, (by have h := HU.out 0 (by omega); rw [HVB.out 0 (by omega)] at h; exact h), HD.out⟩
                obtain rfl : j = V.size := by omega
                go_wp2
                go_ret
                exact ⟨1, rfl, .inr (.inr ⟨rfl, HVK.out, HVN.out⟩), HW2.out⟩
          · have HCC := Lib.hid (HFN.out hdot)
            clear HFC HFN hdot
            go_wp2_with fail
            refine HCC.out.mono ?_
            rintro e w' ⟨rfl, m, rfl⟩
            go_wp2
            go_ret
            exact ⟨0, rfl, .inl rfl, (below_drewN HW0.out m)⟩
      · by_cases hdot : fc 46 k < k.size
        · have HD := Lib.hid hdot
          have HCC := Lib.hid (HFC.out hdot)
          obtain ⟨d, hd⟩ : ∃ d, fc 46 k = d := ⟨_, rfl⟩
          rw [hd] at HCC hdot
          have HDD := Lib.hid hd
          clear hd HFC HFN
          go_wp2_with fail
          refine HCC.out.mono ?_
          rintro e w' ⟨rfl, m, rfl⟩
          have HW2 : Hid (Below w.heap.size w (w1.drewN m)) := Lib.hid (below_drewN HW0.out m)
          generalize w1.drewN m = w2 at HW2 ⊢
          obtain ⟨V, hV⟩ : ∃ V, k.extract 0 d = V := ⟨_, rfl⟩
          obtain ⟨Y, hY⟩ : ∃ Y, k.extract (d + 1) k.size = Y := ⟨_, rfl⟩
          rw [hV, hY]
          have hVs : V.size = d := by rw [← hV, utf_size _ _ _ (by omega)]; omega
          have HVB : Hid (∀ i, i < d → bt V i = bt k i) := Lib.hid (fun i hi => by rw [← hV, utf_ext _ _ _ _ (by omega) (by omega), Nat.zero_add])
          have hbV := get_bt V
          clear hV hY
          by_cases hd0 : V.size = 0
          · obtain ⟨p1, p2⟩ := rf_emp_yes hd0
            clear hd0 hVs
            go_wp2
            go_ret
            exact ⟨0, rfl, .inl rfl, HW2.out⟩
          have HD0 := Lib.hid hd0
          obtain ⟨p1, p2⟩ := rf_emp_no hd0
          by_cases hy0 : Y.size = 0
          · obtain ⟨r1, r2⟩ := rf_emp_yes hy0
            clear hy0
            go_wp2
            go_ret
            exact ⟨0, rfl, .inl rfl, HW2.out⟩
          obtain ⟨r1, r2⟩ := rf_emp_no hy0
          clear hy0
          go_wp2
          go_loopw [72] (fun i wr => ∃ j : Nat, j ≤ V.size ∧ i = .int .i64 j ∧ Hid (∀ i, i < j → 65 ≤ bt V i ∧ bt V i ≤ 90) ∧ Hid (w2 = wr)) (fun i _ => V.size - (intOf i).toNat)
          case atStart => exact ⟨0, by omega, rfl, Lib.hid (fun i h => by omega), Lib.hid rfl⟩
          case round =>
            obtain ⟨j, hj2, rfl, HU, hw⟩ := hrel
            have hw' := hw.out
            clear hw
            subst hw'
            by_cases hlt2 : j < V.size
            · have hlt3 : (j : Int) < (V.size : Int) := by omega
              by_cases u1 : bt V j < 65
              · go_wp2
                go_ret
                exact ⟨0, rfl, .inl rfl, HW2.out⟩
              by_cases u2 : 90 < bt V j
              · go_wp2
                go_ret
                exact ⟨0, rfl, .inl rfl, HW2.out⟩
              have HU2 : Hid (∀ i, i < j + 1 → 65 ≤ bt V i ∧ bt V i ≤ 90) := Lib.hid (fun i hi => by
                by_cases h1 : i < j
                · exact HU.out i h1
                · obtain rfl : i = j := by omega
                  exact ⟨by omega, by omega⟩)
              go_wp2
              go_roundw
              case rel => exact ⟨j + 1, by omega, by go_num, HU2, Lib.hid (by first | trivial | rfl)⟩
              case measure => simp [intOf]; omega
            · have HVK : Hid (VendorKey k) := Lib.hid ⟨HZ.out, HJ.out, HNN.out, HSP.out, (by have h := HU.out 0 (by omega); rw [HVB.out 0 (by omega)] at h; exact h), HD.out⟩
              obtain rfl : j = V.size := by omega
              go_wp2
              go_ret
              exact ⟨1, rfl, .inr (.inr ⟨rfl, HVK.out, HVN.out⟩), HW2.out⟩
        · have HCC := Lib.hid (HFN.out hdot)
          clear HFC HFN hdot
          go_wp2_with fail
          refine HCC.out.mono ?_
          rintro e w' ⟨rfl, m, rfl⟩
          go_wp2
          go_ret
          exact ⟨0, rfl, .inl rfl, (below_drewN HW0.out m)⟩
end Go.Proofs.YtepeehjajhehfaaGreatDoor
namespace Go.Proofs.YtepeehjajhehfaaGreatDoor
open Go.RowKit Go.PlainAid
set_option linter.unusedVariables false

/-- Open, or right and without a byte 0. -/
def Text2R (s : ByteArray) (v : Int) : Prop := v = 0 ∨ (v = 1 ∧ nulB s = false)
set_option maxRecDepth 20000 in
set_option maxHeartbeats 1600000 in
theorem specText2 (s : ByteArray) (n : Int) (w : World) (hs : s.size ≤ 4611686018427387904) :
    Calls Tryz.prog 20 #[.string s, .int .i64 n, .int .i64 2] w fun e w' => ∃ v, e = .returned (.int .i64 v) ∧ Text2R s v ∧ w = w' := by
  have HN0 : ∀ w, Calls Tryz.prog 39 #[.string s] w fun e w' => e = .returned (.bool (nulB s)) ∧ w = w' := fun w => specHasNUL s w hs
  have HU := fun w => Lib.hid (specUTF8 s w hs)
  obtain ⟨b, hb⟩ : ∃ b, nulB s = b := ⟨_, rfl⟩
  have HB := Lib.hid hb
  rw [hb] at HN0
  clear hb
  have HN := fun w => Lib.hid (HN0 w)
  clear HN0
  cases b with
  | true =>
    go_enter Tryz.func20, Tryz.ntmps20
    go_wp2_with (go_at_call 39; refine (HN _).out.mono ?_; rintro e w' ⟨rfl, rfl⟩)
    go_ret
    exact ⟨0, rfl, .inl rfl, rfl⟩
  | false =>
    go_enter Tryz.func20, Tryz.ntmps20
    go_wp2_with (go_at_call 39; refine (HN _).out.mono ?_; rintro e w' ⟨rfl, rfl⟩)
    refine (HU _).out.mono ?_
    rintro e w' ⟨u, rfl, _, hw9⟩
    subst hw9
    cases u with
    | true =>
      go_wp2
      go_ret
      exact ⟨1, rfl, .inr ⟨rfl, HB.out⟩, rfl⟩
    | false =>
      go_wp2
      go_ret
      exact ⟨0, rfl, .inl rfl, rfl⟩
set_option maxRecDepth 20000 in
set_option maxHeartbeats 1600000 in
theorem specOwner2 (s : ByteArray) (w : World) (hs : s.size ≤ 4611686018427387904) :
    Calls Tryz.prog 24 #[.string s, .int .i64 2] w fun e w' => ∃ v, e = .returned (.int .i64 v) ∧ Text2R s v ∧ Below w.heap.size w w' := by
  have HT := fun w => Lib.hid (specText2 s 32 w hs)
  go_enter Tryz.func24, Tryz.ntmps24
  go_wp2_with fail
  refine (HT _).out.mono ?_
  rintro e w' ⟨v, rfl, hv, hw9⟩
  subst hw9
  have HV := Lib.hid hv
  clear hv
  go_wp2
  go_ret
  exact ⟨v, rfl, HV.out, Below.refl _ _⟩
end Go.Proofs.YtepeehjajhehfaaGreatDoor
namespace Go.Proofs.YtepeehjajhehfaaGreatDoor
open Go.RowKit Go.PlainAid Go.Maps Go.ChangeMaps Go.MapKept Go.WideMaps
set_option linter.unusedVariables false

/-- What is known of the functions that Can calls, at each format. -/
noncomputable def kA (f : Int) (hf : f = 1 ∨ f = 3) : CanKit f where
  TR s n v := v = textV s n f
  OR s v := v = ownerV s f
  RR k v x := RfR k v x
  text s n w hs := (specText13 s n f w hs hf).mono (fun e w' ⟨h1, h2⟩ => ⟨_, h1, rfl, h2⟩)
  owner s w hs := (specOwner13 s f w hs hf).mono (fun e w' ⟨h1, h2⟩ => ⟨_, h1, rfl, h2⟩)
  live := True
  rec_ _ k v w hk hv := specRecordFits k v w hk hv
def kA2 : CanKit 2 where
  TR s n v := Text2R s v
  OR s v := Text2R s v
  RR k v x := RfR k v x
  text s n w hs := specText2 s n w hs
  owner s w hs := specOwner2 s w hs
  live := True
  rec_ _ k v w hk hv := specRecordFits k v w hk hv
theorem when2 {b : Bool} : whenV b = 2 ↔ b = false := by cases b <;> simp [whenV]
theorem whenY {b : Bool} : Yes (whenV b) ↔ b = true := by cases b <;> simp [whenV, Yes]
/-- Texts. -/
theorem text1_2 {s : ByteArray} {n : Int} (h : textV s n 1 = 2) : asc s = false ∨ n < (s.size : Int) := by
  unfold textV at h
  split at h
  · cases h
  · rw [if_pos rfl, when2, Bool.and_eq_false_iff] at h
    exact h.imp id (fun h9 => by have := of_decide_eq_false h9; omega)
theorem text1_Y {s : ByteArray} {n : Int} (h : Yes (textV s n 1)) : nulB s = false ∧ asc s = true ∧ (s.size : Int) ≤ n := by
  unfold textV at h
  split at h
  · exact absurd rfl h.2
  · rename_i hn
    rw [if_pos rfl, whenY, Bool.and_eq_true] at h
    exact ⟨by simpa using hn, h.1, of_decide_eq_true h.2⟩
theorem text3_2 {s : ByteArray} {n : Int} (h : textV s n 3 = 2) : False := by
  unfold textV at h
  split at h
  · cases h
  · rw [if_neg (by decide)] at h; cases h
theorem text3_Y {s : ByteArray} {n : Int} (h : Yes (textV s n 3)) : nulB s = false := by
  unfold textV at h
  split at h
  · exact absurd rfl h.2
  · rename_i hn; simpa using hn
theorem own1_2 {s : ByteArray} (h : ownerV s 1 = 2) : asc s = false ∨ (32 : Int) < (s.size : Int) := by
  unfold ownerV at h
  rw [if_neg (by omega)] at h
  split at h
  · have h9 := (allV_ax _).2.1 h
    simp only [List.mem_cons, List.not_mem_nil, or_false] at h9
    rcases h9 with h9 | h9
    · exact text1_2 h9.symm
    · cases h9
  · exact text1_2 h
theorem own1_Y {s : ByteArray} (h : Yes (ownerV s 1)) : nulB s = false ∧ asc s = true ∧ (s.size : Int) ≤ 32 := by
  unfold ownerV at h
  rw [if_neg (by omega)] at h
  split at h
  · exfalso
    rcases (allV_ax [textV s 32 1, 0]).2.2 with h9 | h9 | h9
    · exact h.2 h9
    · exact ((allV_ax _).1 h9 0 (by simp)).2 rfl
    · exact h.1 h9
  · exact text1_Y h
theorem own3_2 {s : ByteArray} (h : ownerV s 3 = 2) : 32 < s.size := by
  unfold ownerV at h
  split at h
  · rename_i h9; exact h9.2
  · split at h
    · have h9 := (allV_ax _).2.1 h
      simp only [List.mem_cons, List.not_mem_nil, or_false] at h9
      rcases h9 with h9 | h9
      · exact (text3_2 h9.symm).elim
      · cases h9
    · exact (text3_2 h).elim
theorem own3_Y {s : ByteArray} (h : Yes (ownerV s 3)) : nulB s = false ∧ ¬ 32 < s.size := by
  unfold ownerV at h
  split at h
  · exact absurd rfl h.1
  · rename_i h8
    split at h
    · exfalso
      rcases (allV_ax [textV s 32 3, 0]).2.2 with h9 | h9 | h9
      · exact h.2 h9
      · exact ((allV_ax _).1 h9 0 (by simp)).2 rfl
      · exact h.1 h9
    · exact ⟨text3_Y h, fun h9 => h8 ⟨rfl, h9⟩⟩
theorem t2_2 {s : ByteArray} (h : Text2R s 2) : False := by
  rcases h with h | ⟨h, _⟩ <;> cases h
theorem t2_Y {s : ByteArray} {v : Int} (h : Text2R s v) (hy : Yes v) : nulB s = false := by
  rcases h with h | ⟨_, h⟩
  · exact absurd h hy.2
  · exact h
theorem uS_iff {s : ByteArray} {n : Int} {bp : Bool} : uS s n bp = true ↔ ((asc s = true ∧ ¬ n < (s.size : Int)) ∨ (bp = true ∧ spl s = true)) := by
  unfold uS
  by_cases hn : n < (s.size : Int) <;> cases asc s <;> cases bp <;> cases spl s <;> simp [hn]
theorem gS_iff {s : ByteArray} {n : Int} {bq : Bool} : gS s n bq = true ↔ (nulB s = false ∧ (n < (s.size : Int) → bq = true)) := by
  unfold gS nulB
  by_cases hn : n < (s.size : Int) <;> by_cases h0 : fc 0 s < s.size <;> cases bq <;> simp [hn, h0]
theorem asc_size {s : ByteArray} {i : Nat} (h : Sp s i) : s.size ≤ 256 := by
  obtain ⟨h1, h2, h3, h4, h5, h6⟩ := h
  omega
theorem asc_iff (s : ByteArray) : asc s = true ↔ Asc s := by
  constructor
  · intro h
    by_cases h2 : Asc s
    · exact h2
    · rw [asc_false h2] at h; cases h
  · exact asc_true
/-- Numbers. -/
theorem f7 {n : Int} : fitsO 7 n = true ↔ (0 ≤ n ∧ n < 2097152) := by
  constructor
  · intro h
    by_cases h9 : 0 ≤ n ∧ n < 2097152
    · exact h9
    · rw [fitsO_no (p := 2097152) (by decide) h9] at h; cases h
  · exact fun h => fitsO_yes (p := 2097152) (by decide) h.1 h.2
theorem f11 {n : Int} : fitsO 11 n = true ↔ (0 ≤ n ∧ n < 8589934592) := by
  constructor
  · intro h
    by_cases h9 : 0 ≤ n ∧ n < 8589934592
    · exact h9
    · rw [fitsO_no (p := 8589934592) (by decide) h9] at h; cases h
  · exact fun h => fitsO_yes (p := 8589934592) (by decide) h.1 h.2
theorem g7 {n : Int} : fitsB 7 n = true ↔ (-72057594037927936 ≤ n ∧ n < 72057594037927936) := by
  constructor
  · intro h
    by_cases h9 : -72057594037927936 ≤ n ∧ n < 72057594037927936
    · exact h9
    · rw [fitsB_no (p := 72057594037927936) (by decide) (by decide) h9] at h; cases h
  · exact fun h => fitsB_yes (p := 72057594037927936) (by decide) h.1 h.2
theorem sm1_2 {n : Int} {p : Bool} (h : smallV n 1 p = 2) : ¬ (0 ≤ n ∧ n < 2097152) := by
  unfold smallV at h
  rw [if_neg (by decide), if_neg (by omega)] at h
  split at h
  · cases h
  · assumption
theorem sm1_Y {n : Int} {p : Bool} (h : Yes (smallV n 1 p)) : 0 ≤ n ∧ n < 2097152 := by
  unfold smallV at h
  rw [if_neg (by decide), if_neg (by omega)] at h
  split at h
  · assumption
  · exact absurd rfl h.1
theorem sm2_2 {n : Int} (h : smallV n 2 false = 2) : ¬ (0 ≤ n ∧ n < 2097152) := by
  unfold smallV at h
  rw [if_neg (by decide), if_neg (by simp)] at h
  split at h
  · cases h
  · assumption
theorem sm2_Y {n : Int} (h : Yes (smallV n 2 false)) : 0 ≤ n ∧ n < 2097152 := by
  unfold smallV at h
  rw [if_neg (by decide), if_neg (by simp)] at h
  split at h
  · assumption
  · exact absurd rfl h.1
theorem sm2t_2 {n : Int} (h : smallV n 2 true = 2) : False := by
  unfold smallV at h
  rw [if_neg (by decide), if_pos ⟨rfl, rfl⟩] at h
  split at h <;> cases h
theorem sm2t_Y {n : Int} (h : Yes (smallV n 2 true)) : 0 ≤ n := by
  unfold smallV at h
  rw [if_neg (by decide), if_pos ⟨rfl, rfl⟩] at h
  split at h
  · exact absurd rfl h.2
  · omega
theorem sm3_2 {n : Int} {p : Bool} (h : smallV n 3 p = 2) : 72057594037927936 ≤ n := by
  unfold smallV at h
  rw [if_pos rfl] at h
  split at h
  · cases h
  · split at h
    · cases h
    · omega
theorem sm3_Y {n : Int} {p : Bool} (h : Yes (smallV n 3 p)) : 0 ≤ n ∧ n < 72057594037927936 := by
  unfold smallV at h
  rw [if_pos rfl] at h
  split at h
  · exact absurd rfl h.2
  · split at h
    · omega
    · exact absurd rfl h.1
theorem mom_2 {s n f : Int} (h : momentV s n f = 2) : False := by
  unfold momentV at h
  split at h
  · cases h
  · split at h <;> cases h
theorem mom_Y {s n f : Int} (h : Yes (momentV s n f)) : s ≤ 100000000000000000 ∧ -100000000000000000 ≤ s := by
  unfold momentV at h
  split at h
  · exact absurd rfl h.2
  · omega
/-- Times. -/
theorem iz_not {s n : Int} (hs : -9223372036854775808 ≤ s ∧ s ≤ 9223372036854775807) (ho : oddB s n = false) : izB n (unx s) = false := by
  cases hb : izB n (unx s) with
  | false => rfl
  | true =>
    exfalso
    unfold izB at hb
    rw [Bool.and_eq_true, decide_eq_true_eq, decide_eq_true_eq] at hb
    have e := secOf_unx s hs
    rw [hb.2] at e
    have e2 : s = -62135596800 := by rw [← e]; unfold secOf wrap64; omega
    rw [e2, hb.1] at ho
    exact absurd ho (by decide)
theorem iz_zero : izB 0 0 = true := by decide
/-- Digits hold no byte 0. -/
theorem nonul_list {s : ByteArray} (h : ∀ c ∈ s.data.toList, c ≠ 0) : ¬ fc 0 s < s.size := fun hlt => by
  have h1 := (fc_lt_bt 0 s hlt).1
  have hl : fc 0 s < s.data.toList.length := by rw [← Lib.size_eq]; exact hlt
  rw [bt_list s _ hl] at h1
  refine h _ (List.getElem_mem hl) (UInt8.toNat_inj.1 ?_)
  exact Int.ofNat.inj h1
theorem dig_ne {l : List UInt8} (h : allDig l) : ∀ c ∈ l, c ≠ 0 := fun c hc e => by
  have := h c hc
  rw [e] at this
  exact absurd this (by unfold dig; decide)
theorem intL_ne (i : Int) : ∀ c ∈ intL i, c ≠ 0 := fun c hc => by
  unfold intL at hc
  split at hc
  · rcases List.mem_cons.1 hc with hc | hc
    · rw [hc]; decide
    · exact dig_ne (numL_dig _) c hc
  · exact dig_ne (numL_dig _) c hc
theorem mkS_l (l : List UInt8) : (mkS l).data.toList = l := by simp [mkS]
theorem nonul_int (i : Int) : ¬ fc 0 (mkS (intL i)) < (mkS (intL i)).size := nonul_list (by rw [mkS_l]; exact intL_ne i)
theorem nonul_tim {tn tx : Int} {T : ByteArray} (h : PTm tn tx T) : ¬ fc 0 T < T.size := by
  obtain ⟨b, W, N, P, t1, _⟩ := h
  refine nonul_list ?_
  rw [t1.eq]
  intro c hc
  rcases List.mem_append.1 hc with hc | hc
  · rcases List.mem_append.1 hc with hc | hc
    · split at hc
      · rw [List.mem_singleton] at hc; rw [hc]; decide
      · cases hc
    · exact dig_ne (numL_dig _) c hc
  · split at hc
    · cases hc
    · rcases List.mem_cons.1 hc with hc | hc
      · rw [hc]; decide
      · exact dig_ne t1.dg c hc
theorem rd_of {s n : Int} {T : ByteArray} (hs : -9223372036854775808 ≤ s ∧ s ≤ 9223372036854775807) (hP : PTm n (unx s) T) (hm : s ≤ 100000000000000000 ∧ -100000000000000000 ≤ s) : RdT T s n := by
  obtain ⟨b, W, N, P, t1, t2, t3, t4, t5⟩ := hP
  rw [secOf_unx s hs] at t4
  have hW : W < 1000000000000000000 := by
    unfold secV at t4
    split at t4
    · split at t4 <;> omega
    · omega
  intro w
  have h9 := t1.spec hW (by omega) t2 w
  rw [← t4, ← t5] at h9
  exact h9
theorem dec_of {n : Int} (h0 : 0 ≤ n) (h1 : n ≤ 9223372036854775807) : DecT (mkS (intL n)) n := by
  have e : mkS (intL n) = numB n.toNat := by
    unfold intL
    rw [if_neg (by omega)]
    rfl
  rw [e]
  refine ⟨decOk_num (by omega), ?_⟩
  have : (numB n.toNat).data.toList = numL n.toNat := by simp [numB]
  rw [this, numL_vl]
  omega
/-- Keys. -/
theorem vendor_bas {k : ByteArray} (h : VendorKey k) : bas k = false := by
  cases hb : bas k with
  | false => rfl
  | true =>
    exfalso
    unfold bas at hb
    rw [List.contains_iff_mem] at hb
    have hu := h.upper
    have key : ∀ (c : UInt8) (r : List UInt8), bl k = c :: r → 97 ≤ c.toNat → False := fun c r e h9 => by
      have := bt0_list (s := k) (c := c) (r := r) e
      omega
    unfold basL at hb
    simp only [List.mem_cons, List.not_mem_nil, or_false] at hb
    rcases hb with e | e | e | e | e | e | e | e | e | e
    all_goals exact key _ _ e (by decide)
theorem bad_bas {k : ByteArray} (h : BadKey k) : bas k = false := by
  cases hb : bas k with
  | false => rfl
  | true =>
    exfalso
    unfold bas at hb
    rw [List.contains_iff_mem] at hb
    have hall : ∀ l ∈ basL, l ≠ [] ∧ ∀ c ∈ l, c ≠ 61 := by decide
    obtain ⟨h1, h2⟩ := hall _ hb
    rcases h.2 with ⟨i, hi, he⟩ | h0
    · have hl : i < k.data.toList.length := by rw [← Lib.size_eq]; exact hi
      rw [bt_list k i hl] at he
      exact h2 _ (List.getElem_mem hl) (UInt8.toNat_inj.1 (Int.ofNat.inj he))
    · exact h1 (List.eq_nil_of_length_eq_zero (by show k.data.toList.length = 0; rw [← Lib.size_eq]; exact h0))
theorem fe_key {h : Hd} {mx an ax cn cx : Int} {y : ByteArray × ByteArray} (hy : FE h mx an ax cn cx y) : bas y.1 = true ∧ y.1.size ≠ 0 ∧ ¬ fc 61 y.1 < y.1.size ∧ ¬ fc 0 y.1 < y.1.size := by
  cases hy
  all_goals
    dsimp only
    exact ⟨by decide, by decide, by decide, by decide⟩
/-- Records in a table. -/
theorem rk_at' (l : List (ByteArray × ByteArray)) (k : Nat) (h : k < l.length) : (rk l k, rv l k) = l[k] := by simp [rk, rv, List.getD, h]
theorem mem_rk {l : List (ByteArray × ByteArray)} {k : Nat} (h : k < l.length) : (rk l k, rv l k) ∈ l := by rw [rk_at' l k h]; exact List.getElem_mem h
theorem rk_mem {l : List (ByteArray × ByteArray)} {x : ByteArray × ByteArray} (h : x ∈ l) : ∃ k, k < l.length ∧ rk l k = x.1 ∧ rv l k = x.2 := by
  obtain ⟨k, hk, he⟩ := List.getElem_of_mem h
  have h9 := rk_at' l k hk
  rw [he] at h9
  exact ⟨k, hk, congrArg Prod.fst h9, congrArg Prod.snd h9⟩
theorem mem_putT_same' (T : List (ByteArray × ByteArray)) (r : ByteArray × ByteArray) : r ∈ putT T r := by
  unfold putT
  exact mem_insT.2 (.inl rfl)
theorem mem_putT_other' {T : List (ByteArray × ByteArray)} {r x : ByteArray × ByteArray} (h : x ∈ T) (hne : bl x.1 ≠ bl r.1) : x ∈ putT T r := by
  unfold putT
  refine mem_insT.2 (.inr (List.mem_filter.2 ⟨h, ?_⟩))
  simpa using hne
theorem tab_last' (a b : List (ByteArray × ByteArray)) (x : ByteArray × ByteArray) : (∀ y ∈ b, y.1 ≠ x.1) → x ∈ tab (a ++ [x] ++ b) := by
  have key : ∀ (c : List (ByteArray × ByteArray)), (∀ y ∈ c.reverse, y.1 ≠ x.1) → x ∈ tab (a ++ [x] ++ c.reverse) := by
    intro c
    induction c with
    | nil => intro _; rw [List.reverse_nil, List.append_nil, tab_snoc]; exact mem_putT_same' _ _
    | cons y c ih =>
      intro h
      rw [List.reverse_cons, ← List.append_assoc, tab_snoc]
      refine mem_putT_other' (ih fun z hz => h z (by rw [List.reverse_cons]; exact List.mem_append_left _ hz)) fun he => ?_
      exact h y (by rw [List.reverse_cons]; simp) (bl_inj he.symm)
  intro h
  have := key b.reverse (by rw [List.reverse_reverse]; exact h)
  rwa [List.reverse_reverse] at this
theorem tab_apart' {rs : List (ByteArray × ByteArray)} {x y : ByteArray × ByteArray} (hx : x ∈ tab rs) (hy : y ∈ tab rs) (h : x.1 = y.1) : x = y := by
  have h1 := tab_at hx (.lit (.string []))
  have h2 := tab_at hy (.lit (.string []))
  rw [h, h2] at h1
  injection h1 with h1
  injection h1 with h1
  exact Prod.ext h (bl_inj h1.symm)
theorem last_mem (l : List (ByteArray × ByteArray)) (k : Nat) (hk : k < l.length) (hlast : ∀ j, k < j → j < l.length → rk l j ≠ rk l k) : (rk l k, rv l k) ∈ tab l := by
  have e : l = l.take k ++ [(rk l k, rv l k)] ++ l.drop (k + 1) := by
    rw [rk_at' l k hk, ← List.take_succ_eq_append_getElem hk, List.take_append_drop]
  have h := tab_last' (l.take k) (l.drop (k + 1)) (rk l k, rv l k) (fun y hy => by
    obtain ⟨i, hi, rfl⟩ := List.getElem_of_mem hy
    rw [List.length_drop] at hi
    have h2 := hlast (k + 1 + i) (by omega) (by omega)
    rw [List.getElem_drop]
    have h3 := congrArg Prod.fst (rk_at' l (k + 1 + i) (by omega))
    intro h4
    exact h2 (h3.trans h4))
  rwa [← e] at h
theorem tab_idx {l : List (ByteArray × ByteArray)} {x : ByteArray × ByteArray} (hmem : x ∈ tab l) : ∃ i, i < (tab l).length ∧ rk (tab l) i = x.1 ∧ rv (tab l) i = x.2 ∧ ∀ j, j < (tab l).length → rk (tab l) j = x.1 → j = i := by
  obtain ⟨i, hi, e1, e2⟩ := rk_mem hmem
  refine ⟨i, hi, e1, e2, fun j hj hq => ?_⟩
  have hs := tab_sorted l
  unfold SortedT at hs
  have hp := List.pairwise_iff_getElem.1 hs
  have ej := congrArg Prod.fst (rk_at' (tab l) j hj)
  have ei := congrArg Prod.fst (rk_at' (tab l) i hi)
  rcases Nat.lt_trichotomy j i with h | h | h
  · have := hp j i hj hi h
    rw [← ej, ← ei, hq, e1, less_irrefl] at this
    cases this
  · exact h
  · have := hp i j hi hj h
    rw [← ej, ← ei, hq, e1, less_irrefl] at this
    cases this
/-- Each key has a record in the table. -/
theorem tab_key {l : List (ByteArray × ByteArray)} {x : ByteArray × ByteArray} (h : x ∈ l) : ∃ y ∈ tab l, y.1 = x.1 := by
  have h1 := (has_mapOf l x.1).2 ⟨x, h, rfl⟩
  rw [tab_map, has_eq] at h1
  rw [List.any_map, List.any_eq_true] at h1
  obtain ⟨y, hy, e⟩ := h1
  exact ⟨y, hy, sameKey_bl.1 e⟩
/-- The type of a header that the documents speak of is none of those that are told by no one. -/
theorem ty_ok {h : Hd} (k : TypeOk h.prom) : ¬ TyErr h := by
  obtain ⟨h1, h2, h3, h4, h5⟩ := k
  have e1 : h.prom.ty = if h.ty = 0 then (if slB h.name = true then 53 else 48) else h.ty := rfl
  have e2 : slB h.prom.name = slB h.name := rfl
  rw [e2] at h4
  unfold TyErr
  by_cases h0 : h.ty = 0
  · rw [h0]; omega
  · rw [if_neg h0] at e1
    rw [e1] at h1 h2 h4
    rintro (⟨h8, h9⟩ | h9)
    · have := h4 h9; omega
    · omega
/-- What all right verdicts share. -/
structure Good (h : Hd) (rs : List (ByteArray × ByteArray)) : Prop where
  ty : TypeOk h.prom
  neg : 0 ≤ h.size
  n1 : nulB h.name = false
  n2 : nulB h.link = false
  n3 : nulB h.un = false
  n4 : nulB h.gn = false
  rcs : ∀ x ∈ rs, VendorKey x.1 ∧ ∀ i, i < x.2.size → bt x.2 i ≠ 0
theorem nulB_no {s : ByteArray} (h : nulB s = false) : ¬ fc 0 s < s.size := of_decide_eq_false h
theorem fc_not {c : UInt8} {s : ByteArray} (h : ∀ i, i < s.size → bt s i ≠ (c.toNat : Int)) : ¬ fc c s < s.size := by rw [fc_all c s h]; omega
theorem Good.no {h : Hd} {mx an ax cn cx : Int} {rs : List (ByteArray × ByteArray)} (g : Good h rs) (N : AllNo h mx an ax cn cx rs) : ((rs.isEmpty && UF h mx an ax cn cx) || PF h || (rs.isEmpty && GF h mx an ax cn cx)) = false := by
  rcases N with h1 | ⟨_, h1⟩ | ⟨L, hL, x, hx, hv⟩ | h1
  · exact absurd h1 (ty_ok g.ty)
  · have := g.neg; omega
  · exfalso
    have key : x.1.size ≠ 0 ∧ ¬ fc 61 x.1 < x.1.size ∧ ¬ fc 0 x.1 < x.1.size ∧ ¬ fc 0 x.2 < x.2.size := by
      rcases hL.src x (mem_tab hx) with h9 | ⟨h9, _, _⟩
      · obtain ⟨_, q1, q2, q3⟩ := fe_key h9
        refine ⟨q1, q2, q3, ?_⟩
        cases h9 with
        | name => exact nulB_no g.n1
        | link => exact nulB_no g.n2
        | un => exact nulB_no g.n3
        | gn => exact nulB_no g.n4
        | uid => exact nonul_int _
        | gid => exact nonul_int _
        | size => exact nonul_int _
        | mt T hT => exact nonul_tim hT
        | at_ T hT => exact nonul_tim hT
        | ct T hT => exact nonul_tim hT
      · obtain ⟨hk, hn⟩ := g.rcs x (mem_tab h9)
        exact ⟨hk.pos, fc_not hk.noeq, fc_not hk.nonul, fc_not hn⟩
    have := hv.2 key.1 key.2.1 key.2.2.1 key.2.2.2
    cases this
  · exact h1
end Go.Proofs.YtepeehjajhehfaaGreatDoor
namespace Go.Proofs.YtepeehjajhehfaaGreatDoor
open Go.RowKit Go.PlainAid
set_option linter.unusedVariables false

/-- What is known of the header besides the verdicts. -/
structure Known (h : Hd) (mx an ax cn cx : Int) (rs : List (ByteArray × ByteArray)) : Prop where
  ok : h.Ok
  ns : NotStrange h
  len : rs.length = h.rn
  mx : mx = unx h.ms
  ma : MayT h.ha h.as_ h.an an ax
  mc : MayT h.hc h.cs h.cn cn cx
section
variable {h : Hd} {mx an ax cn cx : Int} {rs : List (ByteArray × ByteArray)}
theorem Known.secM (k : Known h mx an ax cn cx rs) : secOf mx = h.ms := by rw [k.mx]; exact secOf_unx _ k.ok.ms
theorem Known.izM (k : Known h mx an ax cn cx rs) : izB h.mn mx = false := by rw [k.mx]; exact iz_not k.ok.ms k.ns.2.2.1
theorem Known.izA (k : Known h mx an ax cn cx rs) (ha : h.ha = true) : izB an ax = false := by
  obtain ⟨e1, e2⟩ := k.ma.1 ha
  rw [e1, e2]
  exact iz_not k.ok.as_ (k.ns.2.2.2.1 ha)
theorem Known.izC (k : Known h mx an ax cn cx rs) (hc : h.hc = true) : izB cn cx = false := by
  obtain ⟨e1, e2⟩ := k.mc.1 hc
  rw [e1, e2]
  exact iz_not k.ok.cs (k.ns.2.2.2.2 hc)
theorem Known.noA (k : Known h mx an ax cn cx rs) (ha : h.ha = false) : izB an ax = true := by
  obtain ⟨e1, e2⟩ := k.ma.2 ha
  rw [e1, e2]
  exact iz_zero
theorem Known.noC (k : Known h mx an ax cn cx rs) (hc : h.hc = false) : izB cn cx = true := by
  obtain ⟨e1, e2⟩ := k.mc.2 hc
  rw [e1, e2]
  exact iz_zero
theorem nil_of {f : Int} (k : Known h mx an ax cn cx rs) (h0 : ¬ (0 < h.rn ∧ f ≠ 2)) (hf : f ≠ 2) : rs = [] := by
  have h1 := k.len
  have : h.rn = 0 := by
    rcases Nat.eq_zero_or_pos h.rn with h9 | h9
    · exact h9
    · exact absurd ⟨h9, hf⟩ h0
  exact List.eq_nil_of_length_eq_zero (by omega)
/-- USTAR. -/
theorem us_one (k : Known h mx an ax cn cx rs) (c : AllYesV (kA 1 (.inl rfl)) h rs) : Good h rs ∧ (rs.isEmpty && UF h mx an ax cn cx) = true := by
  obtain ⟨tn0, tn, a1, a2, a3⟩ := c.name
  obtain ⟨tl, b1, b2⟩ := c.link
  obtain ⟨ou, c1, c2⟩ := c.un
  obtain ⟨og, d1, d2⟩ := c.gn
  have a1 : tn0 = textV h.name 256 1 := a1
  have b1 : tl = textV h.link 100 1 := b1
  have c1 : ou = ownerV h.un 1 := c1
  have d1 : og = ownerV h.gn 1 := d1
  rw [b1] at b2
  rw [c1] at c2
  rw [d1] at d2
  obtain ⟨l1, l2, l3⟩ := text1_Y b2
  obtain ⟨u1, u2, u3⟩ := own1_Y c2
  obtain ⟨g1, g2, g3⟩ := own1_Y d2
  have hr : rs = [] := nil_of k c.rec0 (by decide)
  have hn : nulB h.name = false ∧ asc h.name = true ∧ (h.name.size ≤ 100 ∨ ∃ i, Sp h.name i) := by
    rcases a2 with ⟨_, e, b, hb, e2⟩ | ⟨hne, e⟩
    · rw [e2, whenY] at a3
      have h9 := text1_Y (s := h.name) (n := 256) (by rw [← a1, e]; exact ⟨by decide, by decide⟩)
      exact ⟨h9.1, h9.2.1, hb.1 a3⟩
    · rw [e, a1] at a3
      have hy := a3
      have : tn0 = 1 := by
        unfold textV at a1 a3
        split at a3
        · exact absurd rfl a3.2
        · rename_i hnn
          rw [if_neg hnn, if_pos rfl] at a1
          rw [if_pos rfl, whenY] at a3
          rw [a1, a3]
          rfl
      exact absurd ⟨rfl, this⟩ hne
  obtain ⟨p1, p2⟩ := c.us rfl
  rw [whenY, Bool.and_eq_true, decide_eq_true_eq, decide_eq_true_eq] at p1
  rw [whenY, Bool.and_eq_true, Bool.not_eq_true', Bool.not_eq_true'] at p2
  refine ⟨⟨c.ty, c.neg, hn.1, l1, u1, g1, fun x hx => by rw [hr] at hx; cases hx⟩, ?_⟩
  have hsz := c.sz
  unfold sizeV at hsz
  rw [whenY, Bool.and_eq_true] at hsz
  have hs2 : h.size < 8589934592 := by
    have := hsz.2
    rw [show decide ((1 : Int) ≠ 1) = false from rfl, Bool.false_or] at this
    exact of_decide_eq_true this
  rw [hr]
  simp only [UF, List.isEmpty_nil, Bool.true_and, Bool.and_eq_true]
  refine ⟨⟨⟨⟨⟨⟨⟨⟨⟨⟨⟨⟨?_, ?_⟩, ?_⟩, ?_⟩, ?_⟩, ?_⟩, ?_⟩, ?_⟩, ?_⟩, ?_⟩, ?_⟩, ?_⟩, ?_⟩
  · rw [uS_iff]
    rcases Nat.lt_or_ge 100 h.name.size with h9 | h9
    · refine .inr ⟨rfl, spl_true ⟨h9, (asc_iff _).1 hn.2.1, ?_⟩⟩
      rcases hn.2.2 with h8 | h8
      · omega
      · exact h8
    · exact .inl ⟨hn.2.1, by omega⟩
  · rw [uS_iff]; exact .inl ⟨l2, by omega⟩
  · rw [uS_iff]; exact .inl ⟨u2, by omega⟩
  · rw [uS_iff]; exact .inl ⟨g2, by omega⟩
  · rw [f7]; exact sm1_Y c.mode
  · rw [f7]; exact sm1_Y c.uid
  · rw [f7]; exact sm1_Y c.gid
  · rw [f11]; exact ⟨c.neg, hs2⟩
  · rw [f7]; exact sm1_Y c.maj
  · rw [f7]; exact sm1_Y c.min
  · unfold uT
    rw [k.secM, Bool.or_eq_true, Bool.true_and, f11]
    exact .inr ⟨p1.1, p1.2⟩
  · unfold uT
    rw [k.noA p2.1, Bool.true_or]
  · unfold uT
    rw [k.noC p2.2, Bool.true_or]
theorem us_two (k : Known h mx an ax cn cx rs) (c : OneNo (kA 1 (.inl rfl)) h rs) (hb : (rs.isEmpty && UF h mx an ax cn cx) = true) : False := by
  rw [Bool.and_eq_true] at hb
  obtain ⟨he, hb⟩ := hb
  have hr : rs = [] := List.isEmpty_iff.1 he
  simp only [UF, Bool.true_and, Bool.and_eq_true] at hb
  obtain ⟨⟨⟨⟨⟨⟨⟨⟨⟨⟨⟨⟨n1, n2⟩, n3⟩, n4⟩, n5⟩, n6⟩, n7⟩, n8⟩, n9⟩, n10⟩, n11⟩, n12⟩, n13⟩ := hb
  rw [uS_iff] at n1 n2 n3 n4
  rw [f7] at n5 n6 n7 n9 n10
  rw [f11] at n8
  cases c with
  | name tn0 h1 h2 =>
    have h1 : tn0 = textV h.name 256 1 := h1
    rcases h2 with ⟨_, e, b, hb, e2⟩ | ⟨hne, e⟩
    · have hbf := when2.1 e2.symm
      have hno : ¬ (h.name.size ≤ 100 ∨ ∃ i, Sp h.name i) := fun h9 => by rw [hb.2 h9] at hbf; cases hbf
      rcases n1 with ⟨_, h9⟩ | ⟨_, h9⟩
      · exact hno (.inl (by omega))
      · exact hno (.inr ((spl_iff _).1 h9).2.2)
    · rw [h1] at e
      rcases text1_2 e.symm with h9 | h9
      · rcases n1 with ⟨h8, _⟩ | ⟨_, h8⟩
        · rw [h8] at h9; cases h9
        · rw [asc_true ((spl_iff _).1 h8).2.1] at h9; cases h9
      · rcases n1 with ⟨_, h8⟩ | ⟨_, h8⟩
        · omega
        · obtain ⟨i, hi⟩ := ((spl_iff _).1 h8).2.2
          have := asc_size hi
          omega
  | link h1 =>
    have h1 : (2 : Int) = textV h.link 100 1 := h1
    rcases n2 with ⟨h8, h7⟩ | ⟨h8, _⟩
    · rcases text1_2 h1.symm with h9 | h9
      · rw [h8] at h9; cases h9
      · exact h7 h9
    · cases h8
  | un h1 =>
    have h1 : (2 : Int) = ownerV h.un 1 := h1
    rcases n3 with ⟨h8, h7⟩ | ⟨h8, _⟩
    · rcases own1_2 h1.symm with h9 | h9
      · rw [h8] at h9; cases h9
      · exact h7 h9
    · cases h8
  | gn h1 =>
    have h1 : (2 : Int) = ownerV h.gn 1 := h1
    rcases n4 with ⟨h8, h7⟩ | ⟨h8, _⟩
    · rcases own1_2 h1.symm with h9 | h9
      · rw [h8] at h9; cases h9
      · exact h7 h9
    · cases h8
  | mode h1 => exact sm1_2 h1 n5
  | uid h1 => exact sm1_2 h1 n6
  | gid h1 => exact sm1_2 h1 n7
  | maj h1 => exact sm1_2 h1 n9
  | min h1 => exact sm1_2 h1 n10
  | sz h1 =>
    unfold sizeV at h1
    rw [when2, Bool.and_eq_false_iff] at h1
    rcases h1 with h1 | h1
    · rw [Bool.or_eq_false_iff] at h1
      exact of_decide_eq_false h1.1 n8.1
    · rw [Bool.or_eq_false_iff] at h1
      exact of_decide_eq_false h1.2 n8.2
  | mt h1 => exact mom_2 h1
  | us1 h0 h1 =>
    rw [when2] at h1
    unfold uT at n11
    rw [k.izM, k.secM, Bool.false_or, Bool.true_and, f11] at n11
    rw [decide_eq_true n11.1, decide_eq_true n11.2] at h1
    cases h1
  | us2 h0 h1 =>
    rw [when2] at h1
    unfold uT at n12 n13
    rw [Bool.false_and, Bool.or_false] at n12 n13
    rw [Bool.and_eq_false_iff] at h1
    rcases h1 with h1 | h1
    · rw [k.izA (by simpa using h1)] at n12; cases n12
    · rw [k.izC (by simpa using h1)] at n13; cases n13
  | at_ h0 h1 => exact mom_2 h1
  | ct h0 h1 => exact mom_2 h1
  | rec0 h0 h1 =>
    have := k.len
    rw [hr] at this
    have : h.rn = 0 := this.symm
    omega
  | recK j h0 h1 => rw [hr] at h0; cases h0
/-- GNU. -/
theorem gn_one (k : Known h mx an ax cn cx rs) (c : AllYesV (kA 3 (.inr rfl)) h rs) : Good h rs ∧ (rs.isEmpty && GF h mx an ax cn cx) = true := by
  obtain ⟨tn0, tn, a1, a2, a3⟩ := c.name
  obtain ⟨tl, b1, b2⟩ := c.link
  obtain ⟨ou, c1, c2⟩ := c.un
  obtain ⟨og, d1, d2⟩ := c.gn
  have a1 : tn0 = textV h.name 256 3 := a1
  have b1 : tl = textV h.link 100 3 := b1
  have c1 : ou = ownerV h.un 3 := c1
  have d1 : og = ownerV h.gn 3 := d1
  rw [b1] at b2
  rw [c1] at c2
  rw [d1] at d2
  have l1 := text3_Y b2
  obtain ⟨u1, u2⟩ := own3_Y c2
  obtain ⟨g1, g2⟩ := own3_Y d2
  have hr : rs = [] := nil_of k c.rec0 (by decide)
  have hn : nulB h.name = false := by
    rcases a2 with ⟨h9, _⟩ | ⟨_, e⟩
    · cases h9
    · rw [e, a1] at a3
      exact text3_Y a3
  refine ⟨⟨c.ty, c.neg, hn, l1, u1, g1, fun x hx => by rw [hr] at hx; cases hx⟩, ?_⟩
  rw [hr]
  simp only [GF, List.isEmpty_nil, Bool.true_and, Bool.and_eq_true]
  refine ⟨⟨⟨⟨⟨⟨⟨⟨⟨⟨⟨⟨?_, ?_⟩, ?_⟩, ?_⟩, ?_⟩, ?_⟩, ?_⟩, ?_⟩, ?_⟩, ?_⟩, ?_⟩, ?_⟩, ?_⟩
  · rw [gS_iff]; exact ⟨hn, fun _ => rfl⟩
  · rw [gS_iff]; exact ⟨l1, fun _ => rfl⟩
  · rw [gS_iff]; exact ⟨u1, fun h9 => by omega⟩
  · rw [gS_iff]; exact ⟨g1, fun h9 => by omega⟩
  · rw [g7]; have := sm3_Y c.mode; omega
  · rw [g7]; have := sm3_Y c.uid; omega
  · rw [g7]; have := sm3_Y c.gid; omega
  · exact fitsB_big _ (by decide)
  · rw [g7]; have := sm3_Y c.maj; omega
  · rw [g7]; have := sm3_Y c.min; omega
  · unfold gT; rw [fitsB_big _ (by decide), Bool.or_true]
  · unfold gT; rw [fitsB_big _ (by decide), Bool.or_true]
  · unfold gT; rw [fitsB_big _ (by decide), Bool.or_true]
/-- The size of a file that has data. -/
theorem sz_two {f : Int} (h1 : sizeV h f = 2) (hf : f ≠ 1) (hE : ¬ (hoB h.ty = false ∧ h.size < 0)) : False := by
  unfold sizeV at h1
  rw [when2, Bool.and_eq_false_iff] at h1
  rcases h1 with h1 | h1
  · rw [Bool.or_eq_false_iff, Bool.not_eq_false'] at h1
    have h2 : h.size < 0 := by have := of_decide_eq_false h1.1; omega
    refine hE ⟨?_, h2⟩
    have h3 := h1.2
    have e1 : h.prom.ty = if h.ty = 0 then (if slB h.name = true then 53 else 48) else h.ty := rfl
    rw [e1] at h3
    unfold hasD at h3
    rw [Bool.or_eq_true, decide_eq_true_eq, decide_eq_true_eq] at h3
    unfold hoB
    by_cases h0 : h.ty = 0
    · rw [h0]; rfl
    · rw [if_neg h0] at h3
      rw [Bool.and_eq_false_iff, decide_eq_false_iff_not, decide_eq_false_iff_not]
      omega
  · rw [Bool.or_eq_false_iff] at h1
    exact of_decide_eq_false h1.1 hf
theorem gn_two (k : Known h mx an ax cn cx rs) (c : OneNo (kA 3 (.inr rfl)) h rs) (hE : ¬ (hoB h.ty = false ∧ h.size < 0)) (hb : (rs.isEmpty && GF h mx an ax cn cx) = true) : False := by
  rw [Bool.and_eq_true] at hb
  obtain ⟨he, hb⟩ := hb
  have hr : rs = [] := List.isEmpty_iff.1 he
  simp only [GF, Bool.true_and, Bool.and_eq_true] at hb
  obtain ⟨⟨⟨⟨⟨⟨⟨⟨⟨⟨⟨⟨n1, n2⟩, n3⟩, n4⟩, n5⟩, n6⟩, n7⟩, n8⟩, n9⟩, n10⟩, n11⟩, n12⟩, n13⟩ := hb
  rw [gS_iff] at n1 n2 n3 n4
  rw [g7] at n5 n6 n7 n9 n10
  cases c with
  | name tn0 h1 h2 =>
    have h1 : tn0 = textV h.name 256 3 := h1
    rcases h2 with ⟨h9, _⟩ | ⟨_, e⟩
    · cases h9
    · rw [h1] at e; exact text3_2 e.symm
  | link h1 => exact text3_2 (show textV h.link 100 3 = 2 from Eq.symm h1)
  | un h1 =>
    have h9 := own3_2 (show ownerV h.un 3 = 2 from Eq.symm h1)
    have := n3.2 (by omega)
    cases this
  | gn h1 =>
    have h9 := own3_2 (show ownerV h.gn 3 = 2 from Eq.symm h1)
    have := n4.2 (by omega)
    cases this
  | mode h1 => have := sm3_2 h1; omega
  | uid h1 => have := sm3_2 h1; omega
  | gid h1 => have := sm3_2 h1; omega
  | maj h1 => have := sm3_2 h1; omega
  | min h1 => have := sm3_2 h1; omega
  | sz h1 => exact sz_two h1 (by decide) hE
  | mt h1 => exact mom_2 h1
  | us1 h0 h1 => cases h0
  | us2 h0 h1 => cases h0
  | at_ h0 h1 => exact mom_2 h1
  | ct h0 h1 => exact mom_2 h1
  | rec0 h0 h1 =>
    have := k.len
    rw [hr] at this
    have : h.rn = 0 := this.symm
    omega
  | recK j h0 h1 => rw [hr] at h0; cases h0
/-- PAX. -/
structure PaxGood (h : Hd) : Prop where
  uid : 0 ≤ h.uid
  gid : 0 ≤ h.gid
  mt : h.ms ≤ 100000000000000000 ∧ -100000000000000000 ≤ h.ms
  at_ : h.ha = true → h.as_ ≤ 100000000000000000 ∧ -100000000000000000 ≤ h.as_
  ct : h.hc = true → h.cs ≤ 100000000000000000 ∧ -100000000000000000 ≤ h.cs
theorem px_one (k : Known h mx an ax cn cx rs) (c : AllYesV kA2 h rs) : Good h rs ∧ PF h = true ∧ PaxGood h := by
  obtain ⟨tn0, tn, a1, a2, a3⟩ := c.name
  obtain ⟨tl, b1, b2⟩ := c.link
  obtain ⟨ou, c1, c2⟩ := c.un
  obtain ⟨og, d1, d2⟩ := c.gn
  have l1 := t2_Y (s := h.link) b1 b2
  have u1 := t2_Y (s := h.un) c1 c2
  have g1 := t2_Y (s := h.gn) d1 d2
  have hn : nulB h.name = false := by
    rcases a2 with ⟨h9, _⟩ | ⟨_, e⟩
    · cases h9
    · rw [e] at a3
      exact t2_Y (s := h.name) a1 a3
  refine ⟨⟨c.ty, c.neg, hn, l1, u1, g1, fun x hx => ?_⟩, ?_, ⟨sm2t_Y c.uid, sm2t_Y c.gid, mom_Y c.mt, fun h9 => mom_Y (c.at_ h9), fun h9 => mom_Y (c.ct h9)⟩⟩
  · obtain ⟨j, hj, e1, e2⟩ := rk_mem hx
    obtain ⟨v, hv, hy⟩ := c.rcs j hj
    rw [e1, e2] at hv
    rcases hv with h9 | ⟨h9, _⟩ | ⟨_, h9⟩
    · exact absurd h9 hy.2
    · exact absurd h9 hy.1
    · exact h9
  · simp only [PF, Bool.true_and, Bool.and_eq_true, Bool.not_true, Bool.not_false, Bool.or_true, Bool.or_false, and_true]
    refine ⟨⟨?_, ?_⟩, ?_⟩
    · rw [f7]; exact sm2_Y c.mode
    · rw [f7]; exact sm2_Y c.maj
    · rw [f7]; exact sm2_Y c.min
theorem px_two {L : List (ByteArray × ByteArray)} (k : Known h mx an ax cn cx rs) (c : OneNo kA2 h rs) (hE : ¬ (hoB h.ty = false ∧ h.size < 0)) (hL : LE h mx an ax cn cx rs L) (hV : ∀ x ∈ tab L, x.1.size ≠ 0 ∧ ¬ fc 61 x.1 < x.1.size) (hb : PF h = true) : False := by
  simp only [PF, Bool.true_and, Bool.and_eq_true, Bool.not_true, Bool.not_false, Bool.or_true, Bool.or_false, and_true] at hb
  obtain ⟨⟨n1, n2⟩, n3⟩ := hb
  rw [f7] at n1 n2 n3
  cases c with
  | name tn0 h1 h2 =>
    rcases h2 with ⟨h9, _⟩ | ⟨_, e⟩
    · cases h9
    · rw [← e] at h1; exact t2_2 (s := h.name) h1
  | link h1 => exact t2_2 (s := h.link) h1
  | un h1 => exact t2_2 (s := h.un) h1
  | gn h1 => exact t2_2 (s := h.gn) h1
  | mode h1 => exact sm2_2 h1 n1
  | uid h1 => exact sm2t_2 h1
  | gid h1 => exact sm2t_2 h1
  | maj h1 => exact sm2_2 h1 n2
  | min h1 => exact sm2_2 h1 n3
  | sz h1 => exact sz_two h1 (by decide) hE
  | mt h1 => exact mom_2 h1
  | us1 h0 h1 => cases h0
  | us2 h0 h1 => cases h0
  | at_ h0 h1 => exact mom_2 h1
  | ct h0 h1 => exact mom_2 h1
  | rec0 h0 h1 => exact h1 rfl
  | recK j h0 h1 =>
    have h1 : RfR (rk rs j) (rv rs j) 2 := h1
    rcases h1 with h9 | ⟨_, h9⟩ | ⟨h9, _⟩
    · cases h9
    · obtain ⟨x, hx, ex⟩ := tab_key (mem_rk h0)
      have ex : x.1 = rk rs j := ex
      obtain ⟨v, hv⟩ := hL.all x hx (by rw [ex]; exact bad_bas h9) (by rw [ex]; exact h9.1)
      obtain ⟨y, hy, ey⟩ := tab_key hv
      have ey : y.1 = x.1 := ey
      obtain ⟨q1, q2⟩ := hV y hy
      rw [ey, ex] at q1 q2
      rcases h9.2 with ⟨i, hi, he⟩ | h0
      · have hl : i < (rk rs j).data.toList.length := by rw [← Lib.size_eq]; exact hi
        rw [bt_list _ i hl] at he
        exact fc_noneW 61 _ q2 _ (List.getElem_mem hl) (UInt8.toNat_inj.1 (by have h8 := he; show _ = (61 : Nat); omega))
      · exact q1 h0
    · cases h9
/-- Of all records that would be written: each tells what the header has, and the header's own are among them. -/
theorem px_recs {L : List (ByteArray × ByteArray)} (k : Known h mx an ax cn cx rs) (g : Good h rs) (p : PaxGood h) (hL : LE h mx an ax cn cx rs L) : (∀ x ∈ tab L, ApOk h x.1 x.2) ∧ HasOk (tab L) rs := by
  constructor
  · intro x hx
    unfold ApOk
    rcases hL.src x (mem_tab hx) with h9 | ⟨_, h9, _⟩
    · cases h9 with
      | name => exact .inl ⟨rfl, rfl⟩
      | link => exact .inr (.inl ⟨rfl, rfl⟩)
      | un => exact .inr (.inr (.inl ⟨rfl, rfl⟩))
      | gn => exact .inr (.inr (.inr (.inl ⟨rfl, rfl⟩)))
      | size => exact .inr (.inr (.inr (.inr (.inl ⟨rfl, dec_of g.neg k.ok.size.2⟩))))
      | uid => exact .inr (.inr (.inr (.inr (.inr (.inl ⟨rfl, dec_of p.uid k.ok.uid.2⟩)))))
      | gid => exact .inr (.inr (.inr (.inr (.inr (.inr (.inl ⟨rfl, dec_of p.gid k.ok.gid.2⟩))))))
      | mt T hT => exact .inr (.inr (.inr (.inr (.inr (.inr (.inr (.inl ⟨rfl, rd_of k.ok.ms (by rw [← k.mx]; exact hT) p.mt⟩)))))))
      | at_ T hT hz =>
        have ha : h.ha = true := by
          cases hb : h.ha with
          | true => rfl
          | false => rw [k.noA hb] at hz; cases hz
        obtain ⟨e1, e2⟩ := k.ma.1 ha
        exact .inr (.inr (.inr (.inr (.inr (.inr (.inr (.inr (.inl ⟨rfl, ha, rd_of k.ok.as_ (by rw [← e2, ← e1]; exact hT) (p.at_ ha)⟩))))))))
      | ct T hT hz =>
        have hc : h.hc = true := by
          cases hb : h.hc with
          | true => rfl
          | false => rw [k.noC hb] at hz; cases hz
        obtain ⟨e1, e2⟩ := k.mc.1 hc
        exact .inr (.inr (.inr (.inr (.inr (.inr (.inr (.inr (.inr (.inl ⟨rfl, hc, rd_of k.ok.cs (by rw [← e2, ← e1]; exact hT) (p.ct hc)⟩)))))))))
    · exact .inr (.inr (.inr (.inr (.inr (.inr (.inr (.inr (.inr (.inr h9)))))))))
  · intro j hj hlast
    have hm := last_mem rs j hj hlast
    have hv := (g.rcs _ (mem_rk hj)).1
    have hv : VendorKey (rk rs j) := hv
    obtain ⟨v, hv2⟩ := hL.all _ hm (vendor_bas hv) hv.nosp
    obtain ⟨y, hy, ey⟩ := tab_key hv2
    have ey : y.1 = rk rs j := ey
    have e9 : y = (rk rs j, rv rs j) := by
      rcases hL.src y (mem_tab hy) with h9 | ⟨h9, _, _⟩
      · have h8 := (fe_key h9).1
        rw [ey, vendor_bas hv] at h8
        cases h8
      · exact tab_apart' h9 hm ey
    rw [e9] at hy
    exact tab_idx hy
end
end Go.Proofs.YtepeehjajhehfaaGreatDoor
namespace Go.Proofs.YtepeehjajhehfaaGreatDoor
open Go.RowKit Go.PlainAid
set_option linter.unusedVariables false

section
variable {h : Hd} {mx an ax cn cx : Int} {rs : List (ByteArray × ByteArray)} {a1 a2 a3 : Int}
theorem fa_no (k : Known h mx an ax cn cx rs) (c1 : CanR (kA 1 (.inl rfl)) h rs a1) (c2 : CanR kA2 h rs a2) (c3 : CanR (kA 3 (.inr rfl)) h rs a3) (n1 : a1 ≠ 0) (n2 : a2 ≠ 0) (n3 : a3 ≠ 0) (N : AllNo h mx an ax cn cx rs) : a1 = 2 ∧ a2 = 2 ∧ a3 = 2 := by
  obtain ⟨p1, _, r1⟩ := c1.parts
  obtain ⟨p2, _, r2⟩ := c2.parts
  obtain ⟨p3, _, r3⟩ := c3.parts
  refine ⟨?_, ?_, ?_⟩
  · rcases r1 with h9 | h9 | h9
    · exact absurd h9 n1
    · obtain ⟨g, e⟩ := us_one k (p1 h9)
      have := g.no N
      rw [e] at this
      simp at this
    · exact h9
  · rcases r2 with h9 | h9 | h9
    · exact absurd h9 n2
    · obtain ⟨g, e, _⟩ := px_one k (p2 h9)
      have := g.no N
      rw [e] at this
      simp at this
    · exact h9
  · rcases r3 with h9 | h9 | h9
    · exact absurd h9 n3
    · obtain ⟨g, e⟩ := gn_one k (p3 h9)
      have := g.no N
      rw [e] at this
      simp at this
    · exact h9
theorem fa_yes {u p g : Bool} {L : List (ByteArray × ByteArray)} (k : Known h mx an ax cn cx rs) (c1 : CanR (kA 1 (.inl rfl)) h rs a1) (c2 : CanR kA2 h rs a2) (c3 : CanR (kA 3 (.inr rfl)) h rs a3) (n1 : a1 ≠ 0) (n2 : a2 ≠ 0) (n3 : a3 ≠ 0) (Y : AllYes h mx an ax cn cx rs u p g L) :
    a1 = (if u = true then 1 else 2) ∧ a2 = (if p = true then 1 else 2) ∧ a3 = (if g = true then 1 else 2) ∧ (p = true → (∀ x ∈ tab L, ApOk h x.1 x.2) ∧ HasOk (tab L) rs) := by
  obtain ⟨_, hE, hL, hV, hu, hp, hg, _⟩ := Y
  obtain ⟨p1, q1, r1⟩ := c1.parts
  obtain ⟨p2, q2, r2⟩ := c2.parts
  obtain ⟨p3, q3, r3⟩ := c3.parts
  refine ⟨?_, ?_, ?_, fun hpt => ?_⟩
  · rcases r1 with h9 | h9 | h9
    · exact absurd h9 n1
    · obtain ⟨_, e⟩ := us_one k (p1 h9)
      rw [hu, e, if_pos rfl]
      exact h9
    · cases u with
      | false => rw [if_neg (by decide)]; exact h9
      | true => exact (us_two k (q1 h9) hu.symm).elim
  · rcases r2 with h9 | h9 | h9
    · exact absurd h9 n2
    · obtain ⟨_, e, _⟩ := px_one k (p2 h9)
      rw [hp, e, if_pos rfl]
      exact h9
    · cases p with
      | false => rw [if_neg (by decide)]; exact h9
      | true => exact (px_two k (q2 h9) hE hL hV hp.symm).elim
  · rcases r3 with h9 | h9 | h9
    · exact absurd h9 n3
    · obtain ⟨_, e⟩ := gn_one k (p3 h9)
      rw [hg, e, if_pos rfl]
      exact h9
    · cases g with
      | false => rw [if_neg (by decide)]; exact h9
      | true => exact (gn_two k (q3 h9) hE hg.symm).elim
  · rcases r2 with h9 | h9 | h9
    · exact absurd h9 n2
    · obtain ⟨G, _, P⟩ := px_one k (p2 h9)
      exact px_recs k G P hL
    · exact (px_two k (q2 h9) hE hL hV (by rw [← hp]; exact hpt)).elim
end
end Go.Proofs.YtepeehjajhehfaaGreatDoor
