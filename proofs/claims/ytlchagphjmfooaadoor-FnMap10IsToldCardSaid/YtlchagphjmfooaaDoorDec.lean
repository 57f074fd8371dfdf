/- Decimal digits: plain words; walks of spec.digits, spec.decimal, spec.cut, spec.HasNUL; what strconv's numbers say of them. -/
import Derived.Test.YtlchagphjmfooaaDoorCut
import Derived.Lib.ParseIntB
namespace Go.Proofs.YtlchagphjmfooaaDoor
open Go.RowKit Go.PlainAid
set_option linter.unusedVariables false

/-- The number of decimal digits behind acc. -/
def vl (acc : Nat) (l : List UInt8) : Nat := l.foldl (fun a c => a * 10 + (c.toNat - 48)) acc
def dig (c : UInt8) : Prop := 48 ≤ c.toNat ∧ c.toNat ≤ 57
def allDig (l : List UInt8) : Prop := ∀ c ∈ l, dig c
theorem vl_cons (acc : Nat) (c : UInt8) (l : List UInt8) : vl acc (c :: l) = vl (acc * 10 + (c.toNat - 48)) l := by unfold vl; rw [List.foldl_cons]
theorem vl_snoc (acc : Nat) (c : UInt8) (l : List UInt8) : vl acc (l ++ [c]) = vl acc l * 10 + (c.toNat - 48) := by simp [vl]
theorem vl_ge : ∀ (l : List UInt8) (acc : Nat), acc ≤ vl acc l
  | [], acc => Nat.le_refl _
  | c :: l, acc => by
    have := vl_ge l (acc * 10 + (c.toNat - 48))
    rw [vl_cons]
    omega
theorem vl_app (acc : Nat) (a b : List UInt8) : vl acc (a ++ b) = vl (vl acc a) b := by simp [vl]
theorem allDig_cons {c : UInt8} {l : List UInt8} : allDig (c :: l) ↔ dig c ∧ allDig l := by simp [allDig]
theorem uintM_ok (M : Nat) (hM : M / 10 + 1 = 1844674407370955162) : ∀ (l : List UInt8) (acc u : Nat), acc ≤ M → (Lib.parseUintM M acc l = .ok u ↔ allDig l ∧ vl acc l = u ∧ u ≤ M)
  | [], acc, u, ha => by
    simp only [Lib.parseUintM]
    constructor
    · intro h
      have h2 := Lib.NumEnd.ok.inj h
      exact ⟨fun c hc => by simp at hc, h2, by omega⟩
    · rintro ⟨_, h, _⟩
      rw [← h]
      rfl
  | c :: l, acc, u, ha => by
    simp only [Lib.parseUintM]
    by_cases hd : 48 ≤ c.toNat ∧ c.toNat ≤ 57
    · rw [if_pos hd]
      by_cases h1 : 1844674407370955162 ≤ acc
      · rw [if_pos h1]
        constructor
        · intro h; cases h
        · rintro ⟨_, h, hu⟩
          have := vl_ge l (acc * 10 + (c.toNat - 48))
          rw [vl_cons] at h
          omega
      · rw [if_neg h1]
        by_cases h2 : M < acc * 10 + (c.toNat - 48)
        · rw [if_pos h2]
          constructor
          · intro h; cases h
          · rintro ⟨_, h, hu⟩
            have := vl_ge l (acc * 10 + (c.toNat - 48))
            rw [vl_cons] at h
            omega
        · rw [if_neg h2, uintM_ok M hM l _ u (by omega), vl_cons, allDig_cons]
          exact ⟨fun ⟨a, b⟩ => ⟨⟨hd, a⟩, b⟩, fun ⟨⟨_, a⟩, b⟩ => ⟨a, b⟩⟩
    · rw [if_neg hd]
      constructor
      · intro h; cases h
      · rintro ⟨h, _⟩
        exact absurd (allDig_cons.1 h).1 hd
theorem uintB_ok (l : List UInt8) (u : Nat) : Lib.parseUintB 64 l = .ok u ↔ l ≠ [] ∧ allDig l ∧ vl 0 l = u ∧ u ≤ 18446744073709551615 := by
  unfold Lib.parseUintB
  by_cases h : l = []
  · subst h
    simp
  · rw [if_neg h]
    have : (2 : Nat) ^ 64 - 1 = 18446744073709551615 := by decide
    rw [this, uintM_ok 18446744073709551615 (by decide) l 0 u (by omega)]
    exact ⟨fun a => ⟨h, a⟩, fun a => a.2⟩
theorem intB_of_u {c : UInt8} {r : List UInt8} {u : Nat} (h1 : c.toNat ≠ 43) (h2 : c.toNat ≠ 45) (hu : Lib.parseUintB 64 (c :: r) = .ok u) (hv : u ≤ 9223372036854775807) : Lib.parseIntB 64 (c :: r) = .ok (u : Int) := by
  have e3 : ¬ (2 : Nat) ^ (64 - 1) ≤ u := by have : (2 : Nat) ^ (64 - 1) = 9223372036854775808 := by decide
                                             omega
  simp only [Lib.parseIntB, h1, h2, or_self, if_false, hu, e3, false_and, and_false]
/-- A plain number. -/
theorem intB_plain {l : List UInt8} (hne : l ≠ []) (hd : allDig l) (hv : vl 0 l ≤ 9223372036854775807) : Lib.parseIntB 64 l = .ok (vl 0 l : Int) := by
  cases l with
  | nil => exact absurd rfl hne
  | cons c r =>
    have hc := (allDig_cons.1 hd).1
    unfold dig at hc
    have hu := (uintB_ok (c :: r) (vl 0 (c :: r))).2 ⟨hne, hd, rfl, by omega⟩
    exact intB_of_u (by omega) (by omega) hu hv
/-- Without a sign, what is no number of digits alone is none. -/
theorem intB_bad {l : List UInt8} (hne : l ≠ []) (h0 : ∀ c, l.head? = some c → c.toNat ≠ 43 ∧ c.toNat ≠ 45) (hd : ¬ allDig l) : ∀ v, Lib.parseIntB 64 l ≠ .ok v := by
  intro v hv
  cases l with
  | nil => exact absurd rfl hne
  | cons c r =>
    obtain ⟨a, b⟩ := h0 c rfl
    unfold Lib.parseIntB at hv
    have e1 : ¬ (c.toNat = 43 ∨ c.toNat = 45) := by omega
    simp only [e1, if_false] at hv
    cases hu : Lib.parseUintB 64 (c :: r) with
    | ok u => exact hd ((uintB_ok _ u).1 hu).2.1
    | _ => rw [hu] at hv; cases hv

theorem bt_of (s : ByteArray) (k : Nat) (h : k < s.size) : ∃ c, s.data.toList[k]? = some c ∧ bt s k = (c.toNat : Int) := by
  have hl : s.data.toList.length = s.size := (Lib.size_eq s).symm
  exact ⟨s.data.toList[k], List.getElem?_eq_getElem (by omega), bt_list s k (by omega)⟩
theorem take_bt (s : ByteArray) (k : Nat) (h : k < s.size) : ∃ c, s.data.toList.take (k + 1) = s.data.toList.take k ++ [c] ∧ bt s k = (c.toNat : Int) := by
  have hl : s.data.toList.length = s.size := (Lib.size_eq s).symm
  exact ⟨s.data.toList[k], List.take_succ_eq_append_getElem (by omega), bt_list s k (by omega)⟩
theorem allDig_of (s : ByteArray) (k : Nat) (hk : k ≤ s.size) (h : ∀ j, j < k → 48 ≤ bt s j ∧ bt s j ≤ 57) : allDig (s.data.toList.take k) := by
  have hl : s.data.toList.length = s.size := (Lib.size_eq s).symm
  intro c hc
  obtain ⟨i, hi, rfl⟩ := List.getElem_of_mem hc
  rw [List.length_take] at hi
  have := h i (by omega)
  rw [bt_list s i (by omega)] at this
  rw [List.getElem_take]
  unfold dig
  omega
theorem allDig_bt (s : ByteArray) (h : allDig s.data.toList) (j : Nat) (hj : j < s.size) : 48 ≤ bt s j ∧ bt s j ≤ 57 := by
  have hl : s.data.toList.length = s.size := (Lib.size_eq s).symm
  have := h _ (List.getElem_mem (show j < s.data.toList.length by omega))
  rw [bt_list s j (by omega)]
  unfold dig at this
  omega
theorem take_all (s : ByteArray) : s.data.toList.take s.size = s.data.toList := List.take_of_length_le (by rw [← Lib.size_eq]; exact Nat.le_refl _)
/-- What spec.decimal takes. -/
def DecOk (s : ByteArray) : Prop := 1 ≤ s.size ∧ s.size ≤ 19 ∧ allDig s.data.toList ∧ vl 0 s.data.toList ≤ 9223372036854775807
def DecPost (s : ByteArray) (w : World) (e : Ending) (w' : World) : Prop := ((DecOk s ∧ e = .returned (.tuple #[.int .i64 (vl 0 s.data.toList : Nat), .bool true])) ∨ (¬ DecOk s ∧ e = .returned (.tuple #[.int .i64 0, .bool false]))) ∧ w = w'
/-- What spec.digits takes. -/
def DigOk (s : ByteArray) : Prop := 0 < s.size ∧ allDig s.data.toList
def DigPost (s : ByteArray) (w : World) (e : Ending) (w' : World) : Prop := ((DigOk s ∧ e = .returned (.bool true)) ∨ (¬ DigOk s ∧ e = .returned (.bool false))) ∧ w = w'
theorem vl_take_le (l : List UInt8) (k : Nat) : vl 0 (l.take k) ≤ vl 0 l := by
  have h := List.take_append_drop k l
  have := vl_app 0 (l.take k) (l.drop k)
  rw [h] at this
  rw [this]
  exact vl_ge _ _

set_option maxRecDepth 20000 in
set_option maxHeartbeats 800000 in
theorem decimal_any (s : ByteArray) (w : World) (hs : s.size ≤ 4611686018427387904) :
    Calls Tryd.prog 37 #[.string s] w (DecPost s w) := by
  have hb := get_bt s
  by_cases h0 : s.size = 0
  · have HD : Hid (¬ DecOk s) := Lib.hid (fun h => by have := h.1; omega)
    have h0' : (s.size : Int) ≤ 0 := by omega
    have h0b : ((s.size : Int) == 0) = true := by rw [beq_iff_eq]; omega
    clear h0
    go_enter Tryd.func37, Tryd.ntmps37
    go_wp2
    go_ret2
    exact ⟨.inr ⟨HD.out, rfl⟩, rfl⟩
  have h0b : ((s.size : Int) == 0) = false := by rw [beq_eq_false_iff_ne]; omega
  by_cases h19 : 19 < s.size
  · have HD : Hid (¬ DecOk s) := Lib.hid (fun h => by have := h.2.1; omega)
    clear h0
    go_enter Tryd.func37, Tryd.ntmps37
    go_wp2
    go_ret2
    exact ⟨.inr ⟨HD.out, rfl⟩, rfl⟩
  have hpos : 1 ≤ s.size := by omega
  clear h0
  go_enter Tryd.func37, Tryd.ntmps37
  go_wp2
  go_loop [4, 17] (fun n i => ∃ k : Nat, k ≤ s.size ∧ i = .int .i64 k ∧ n = .int .i64 (vl 0 (s.data.toList.take k) : Nat) ∧ vl 0 (s.data.toList.take k) ≤ 9223372036854775807 ∧ Hid (∀ j, j < k → 48 ≤ bt s j ∧ bt s j ≤ 57)) (fun _ i => s.size - (intOf i).toNat)
  case atStart => exact ⟨0, by omega, rfl, rfl, by simp [vl], (show ∀ j, j < 0 → _ from fun j hj => by omega)⟩
  case round =>
    obtain ⟨k, hk, rfl, rfl, hn, hg⟩ := hrel
    obtain ⟨n, hnn⟩ : ∃ n, vl 0 (s.data.toList.take k) = n := ⟨_, rfl⟩
    have HNN := Lib.hid hnn
    rw [hnn] at hn ⊢
    clear hnn
    by_cases hlt : k < s.size
    · obtain ⟨c, hc1, hc2⟩ := take_bt s k hlt
      have b1 := bt_nonneg s k
      have b2 := bt_le s k
      by_cases hd : 48 ≤ bt s k ∧ bt s k ≤ 57
      · obtain ⟨d1, d2⟩ := hd
        have HV : Hid (vl 0 (s.data.toList.take (k + 1)) = n * 10 + (bt s k - 48).toNat) := Lib.hid (by rw [hc1, vl_snoc, HNN.out, hc2]; omega)
        by_cases hq : (n : Int) ≤ (9223372036854775807 - (bt s k - 48)) / 10
        · have hm : (n : Int) * 10 + (bt s k - 48) ≤ 9223372036854775807 := by omega
          have HG : Hid (∀ j, j < k + 1 → 48 ≤ bt s j ∧ bt s j ≤ 57) := Lib.hid (fun j hj => by
            by_cases h2 : j < k
            · exact hg.out j h2
            · obtain rfl : j = k := by omega
              exact ⟨d1, d2⟩)
          clear hc1 hc2
          go_wp2
          go_round
          case rel => exact ⟨k + 1, by omega, by go_num, val_i64 (by rw [HV.out]; omega), by rw [HV.out]; omega, HG.out⟩
          case measure => simp [intOf]; omega
        · have HD : Hid (¬ DecOk s) := Lib.hid (fun h => by
            have h1 := vl_take_le s.data.toList (k + 1)
            have h2 := HV.out
            have h3 := h.2.2.2
            omega)
          clear hc1 hc2
          go_wp2
          go_ret2
          exact ⟨.inr ⟨HD.out, rfl⟩, rfl⟩
      · have HD : Hid (¬ DecOk s) := Lib.hid (fun h => hd (allDig_bt s h.2.2.1 k hlt))
        clear hc1 hc2
        by_cases hd1 : bt s k < 48
        · clear hd
          go_wp2
          go_ret2
          exact ⟨.inr ⟨HD.out, rfl⟩, rfl⟩
        · have hd2 : 57 < bt s k := by omega
          clear hd
          go_wp2
          go_ret2
          exact ⟨.inr ⟨HD.out, rfl⟩, rfl⟩
    · obtain rfl : k = s.size := by omega
      have HT := Lib.hid (take_all s)
      have HA := Lib.hid (allDig_of s s.size (Nat.le_refl _) hg.out)
      have HD : Hid (DecOk s ∧ n = vl 0 s.data.toList) := Lib.hid ⟨⟨hpos, by omega, by have := HA.out; rwa [HT.out] at this, by have := HNN.out; rw [HT.out] at this; omega⟩, by have := HNN.out; rw [HT.out] at this; exact this.symm⟩
      go_wp2
      go_ret2
      exact ⟨.inl ⟨HD.out.1, by rw [← HD.out.2]; rfl⟩, rfl⟩

set_option maxRecDepth 20000 in
set_option maxHeartbeats 400000 in
theorem digits_any (s : ByteArray) (w : World) (hs : s.size ≤ 4611686018427387904) :
    Calls Tryd.prog 38 #[.string s] w (DigPost s w) := by
  have hb := get_bt s
  go_enter Tryd.func38, Tryd.ntmps38
  go_wp2
  go_loop [6] (fun i => ∃ k : Nat, k ≤ s.size ∧ i = .int .i64 k ∧ Hid (∀ j, j < k → 48 ≤ bt s j ∧ bt s j ≤ 57)) (fun i => s.size - (intOf i).toNat)
  case atStart => exact ⟨0, by omega, rfl, (show ∀ j, j < 0 → _ from fun j hj => by omega)⟩
  case round =>
    obtain ⟨k, hk, rfl, hg⟩ := hrel
    by_cases hlt : k < s.size
    · have b1 := bt_nonneg s k
      have b2 := bt_le s k
      by_cases hd : 48 ≤ bt s k ∧ bt s k ≤ 57
      · obtain ⟨d1, d2⟩ := hd
        have HG : Hid (∀ j, j < k + 1 → 48 ≤ bt s j ∧ bt s j ≤ 57) := Lib.hid (fun j hj => by
          by_cases h2 : j < k
          · exact hg.out j h2
          · obtain rfl : j = k := by omega
            exact ⟨d1, d2⟩)
        go_wp2
        go_round
        case rel => exact ⟨k + 1, by omega, by go_num, HG.out⟩
        case measure => simp [intOf]; omega
      · have HD : Hid (¬ DigOk s) := Lib.hid (fun h => hd (allDig_bt s h.2 k hlt))
        by_cases hd1 : bt s k < 48
        · clear hd
          go_wp2
          go_ret
          exact ⟨.inr ⟨HD.out, rfl⟩, rfl⟩
        · have hd2 : 57 < bt s k := by omega
          clear hd
          go_wp2
          go_ret
          exact ⟨.inr ⟨HD.out, rfl⟩, rfl⟩
    · obtain rfl : k = s.size := by omega
      have HT := Lib.hid (take_all s)
      have HA := Lib.hid (allDig_of s s.size (Nat.le_refl _) hg.out)
      have HA2 : Hid (allDig s.data.toList) := Lib.hid (by have := HA.out; rwa [HT.out] at this)
      by_cases h0 : 0 < s.size
      · have HZ := Lib.hid h0
        go_wp2
        go_ret
        exact ⟨.inl ⟨⟨HZ.out, HA2.out⟩, rfl⟩, rfl⟩
      · have HZ := Lib.hid h0
        have hz2 : (s.size : Int) ≤ 0 := by omega
        go_wp2
        go_ret
        exact ⟨.inr ⟨fun h => HZ.out h.1, rfl⟩, rfl⟩

set_option maxRecDepth 20000 in
set_option maxHeartbeats 400000 in
theorem specCut (s : ByteArray) (c : UInt8) (w : World) (hs : s.size ≤ 4611686018427387904) :
    Calls Tryd.prog 36 #[.string s, .int .u8 (c.toNat : Int)] w (Quietly (cutV c s) w) := by
  have hb := get_bt s
  go_enter Tryd.func36, Tryd.ntmps36
  go_wp2
  go_loop [10] (fun i => ∃ k : Nat, k ≤ s.size ∧ i = .int .i64 k ∧ Hid (∀ j, j < k → bt s j ≠ (c.toNat : Int))) (fun i => s.size - (intOf i).toNat)
  case atStart => exact ⟨0, by omega, rfl, (show ∀ j, j < 0 → _ from fun j hj => by omega)⟩
  case round =>
    obtain ⟨k, hk, rfl, hg⟩ := hrel
    by_cases hlt : k < s.size
    · by_cases hc : bt s k = (c.toNat : Int)
      · have HE : Hid (fc c s = k) := Lib.hid (fc_eq c s k hlt hc hg.out)
        have HV : Hid (cutV c s = .tuple #[.string (s.extract 0 k), .string (s.extract (k + 1) s.size), .bool true]) := Lib.hid (by unfold cutV; rw [HE.out, if_pos hlt])
        have hc' : (bt s k == (c.toNat : Int)) = true := by simpa using hc
        have h1 : (0 : Int) ≤ (k : Int) := by omega
        have h2 : (k : Int) ≤ (s.size : Int) := by omega
        have h3 : IntKind.i64.wrap ((k : Int) + 1) = (k : Int) + 1 := IntWalk.i64_in _ (by omega)
        have h4 : (0 : Int) ≤ (k : Int) + 1 := by omega
        have h5 : (k : Int) + 1 ≤ (s.size : Int) := by omega
        have h6 : ((k : Int) + 1).toNat = k + 1 := by omega
        clear hc
        go_wp2
        go_region_held3 (fun _ => True) (trivial) (fail)
        go_wp2
        go_ret3
        exact ⟨by rw [HV.out]; rfl, 1, rfl⟩
      · have HC := Lib.hid hc
        have hc' : (bt s k == (c.toNat : Int)) = false := by simpa using hc
        clear hc
        go_wp2
        go_round
        case rel => exact ⟨k + 1, by omega, by go_num, ne_succ hg.out HC.out⟩
        case measure => simp [intOf]; omega
    · obtain rfl : k = s.size := by omega
      have HV : Hid (cutV c s = .tuple #[.string s, .string ⟨#[]⟩, .bool false]) := Lib.hid (by unfold cutV; rw [fc_all c s hg.out, if_neg (by omega)])
      go_wp2
      go_ret3
      exact ⟨by rw [HV.out]; rfl, 0, rfl⟩

set_option maxRecDepth 20000 in
set_option maxHeartbeats 400000 in
theorem specHasNUL (s : ByteArray) (w : World) (hs : s.size ≤ 4611686018427387904) :
    Calls Tryd.prog 15 #[.string s] w fun e w' => e = .returned (.bool (decide (fc 0 s < s.size))) ∧ w = w' := by
  have hb := get_bt s
  go_enter Tryd.func15, Tryd.ntmps15
  go_wp2
  go_loop [6] (fun i => ∃ k : Nat, k ≤ s.size ∧ i = .int .i64 k ∧ Hid (∀ j, j < k → bt s j ≠ ((0 : UInt8).toNat : Int))) (fun i => s.size - (intOf i).toNat)
  case atStart => exact ⟨0, by omega, rfl, (show ∀ j, j < 0 → _ from fun j hj => by omega)⟩
  case round =>
    obtain ⟨k, hk, rfl, hg⟩ := hrel
    by_cases hlt : k < s.size
    · by_cases hc : bt s k = ((0 : UInt8).toNat : Int)
      · have HE : Hid (decide (fc 0 s < s.size) = true) := Lib.hid (by rw [fc_eq 0 s k hlt hc hg.out]; simpa using hlt)
        have hc' : (bt s k == 0) = true := by rw [hc]; rfl
        clear hc
        go_wp2
        go_ret
        exact ⟨by rw [HE.out]; rfl, rfl⟩
      · have HC := Lib.hid hc
        have hc' : (bt s k == 0) = false := by rw [beq_eq_false_iff_ne]; exact hc
        clear hc
        go_wp2
        go_round
        case rel => exact ⟨k + 1, by omega, by go_num, ne_succ hg.out HC.out⟩
        case measure => simp [intOf]; omega
    · obtain rfl : k = s.size := by omega
      have HE : Hid (decide (fc 0 s < s.size) = false) := Lib.hid (by rw [fc_all 0 s hg.out]; simp)
      go_wp2
      go_ret
      exact ⟨by rw [HE.out]; rfl, rfl⟩
end Go.Proofs.YtlchagphjmfooaaDoor
