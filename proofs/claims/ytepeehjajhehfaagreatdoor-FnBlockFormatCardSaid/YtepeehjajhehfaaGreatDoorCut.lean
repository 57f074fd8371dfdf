/- Walks of zzIndex, zzContains, zzCut at one byte; of spec.cut. -/
import Derived.Test.YtepeehjajhehfaaGreatDoorRows
import Derived.Test.YtepeehjajhehfaaGreatDoorO
import Derived.Deep.RegionHeld3
import Derived.Deep.CutBlock
import Derived.Deep.DeepCutAuto
import Derived.Lib.IndexBytes
namespace Go.Proofs.YtepeehjajhehfaaGreatDoor
open Go.RowKit Go.PlainAid
set_option linter.unusedVariables false

/-- Where the first byte c is. -/
def fc (c : UInt8) (s : ByteArray) : Nat := s.data.toList.findIdx (· == c)
theorem fc_le (c : UInt8) (s : ByteArray) : fc c s ≤ s.size := by
  unfold fc
  have := List.findIdx_le_length (p := (· == c)) (xs := s.data.toList)
  have e : s.data.toList.length = s.size := (Lib.size_eq s).symm
  omega
theorem bt_list (s : ByteArray) (k : Nat) (h : k < s.data.toList.length) : bt s k = ((s.data.toList[k]).toNat : Int) := by
  have hs : k < s.size := by rw [Lib.size_eq]; exact h
  rw [← get_bt s k hs]
  rfl
theorem fc_eq (c : UInt8) (s : ByteArray) (k : Nat) (hk : k < s.size) (h0 : bt s k = (c.toNat : Int)) (h : ∀ i, i < k → bt s i ≠ (c.toNat : Int)) : fc c s = k := by
  unfold fc
  have hl : s.data.toList.length = s.size := (Lib.size_eq s).symm
  rw [List.findIdx_eq (by omega)]
  refine ⟨?_, fun j hj => ?_⟩
  · rw [bt_list s k (by omega)] at h0
    have : s.data.toList[k] = c := UInt8.toNat_inj.1 (by omega)
    simp [this]
  · have := h j hj
    rw [bt_list s j (by omega)] at this
    have h2 : s.data.toList[j] ≠ c := fun h3 => this (by rw [h3])
    simpa using h2
theorem fc_all (c : UInt8) (s : ByteArray) (h : ∀ i, i < s.size → bt s i ≠ (c.toNat : Int)) : fc c s = s.size := by
  unfold fc
  have hl : s.data.toList.length = s.size := (Lib.size_eq s).symm
  rw [← hl, List.findIdx_eq_length]
  intro x hx
  obtain ⟨i, hi, rfl⟩ := List.getElem_of_mem hx
  have := h i (by omega)
  rw [bt_list s i hi] at this
  have h2 : s.data.toList[i] ≠ c := fun h3 => this (by rw [h3])
  simpa using h2
theorem findIdx_at (l : List UInt8) (c : UInt8) (h : l.findIdx (· == c) < l.length) : l[l.findIdx (· == c)] = c := by
  have := List.findIdx_getElem (w := h)
  simpa using this
theorem findIdx_lo (l : List UInt8) (c : UInt8) (i : Nat) (hi : i < l.findIdx (· == c)) (h : i < l.length) : l[i] ≠ c := by
  have := List.not_of_lt_findIdx hi
  simpa using this
theorem beq_one (x c : UInt8) : ([x] == [c]) = decide ((x.toNat : Int) = (c.toNat : Int)) := by
  by_cases h : x = c
  · rw [h]; simp
  · have h2 : ¬ (x.toNat : Int) = (c.toNat : Int) := fun h3 => h (UInt8.toNat_inj.1 (by omega))
    rw [decide_eq_false h2]
    simpa using h
theorem fc_lt_bt (c : UInt8) (s : ByteArray) (h : fc c s < s.size) : bt s (fc c s) = (c.toNat : Int) ∧ ∀ i, i < fc c s → bt s i ≠ (c.toNat : Int) := by
  have hl : s.data.toList.length = s.size := (Lib.size_eq s).symm
  have h' : s.data.toList.findIdx (· == c) < s.data.toList.length := by unfold fc at h; omega
  constructor
  · unfold fc
    rw [bt_list s _ h', findIdx_at]
  · intro i hi
    have hi' : i < s.data.toList.findIdx (· == c) := hi
    rw [bt_list s i (by omega)]
    intro h3
    exact findIdx_lo _ _ i hi' (by omega) (UInt8.toNat_inj.1 (by omega))
theorem ne_succ {s : ByteArray} {c : UInt8} {k : Nat} (h : ∀ j, j < k → bt s j ≠ (c.toNat : Int)) (h1 : bt s k ≠ (c.toNat : Int)) : ∀ j, j < k + 1 → bt s j ≠ (c.toNat : Int) := by
  intro j hj
  by_cases h2 : j < k
  · exact h j h2
  · obtain rfl : j = k := by omega
    exact h1
theorem piece1 (s : ByteArray) (c : UInt8) (k : Nat) (hk : k < s.size) : ((s.extract k (k + 1)).toList == [c]) = decide (bt s k = (c.toNat : Int)) := by
  have hl : s.data.toList.length = s.size := (Lib.size_eq s).symm
  rw [Lib.toList_data, Lib.extract_data, show k + 1 - k = 1 by omega, List.drop_eq_getElem_cons (by omega), bt_list s k (by omega)]
  have e : (s.data.toList[k] :: s.data.toList.drop (k + 1)).take 1 = [s.data.toList[k]] := by simp
  rw [e, beq_one]
/-- The index as zzIndex gives it. -/
def idxI (c : UInt8) (s : ByteArray) : Int := if fc c s < s.size then (fc c s : Int) else -1

set_option maxRecDepth 20000 in
set_option maxHeartbeats 400000 in
theorem zzIndex1 (s : ByteArray) (c : UInt8) (w : World) (hs : s.size ≤ 4611686018427387904) :
    Calls Tryz.prog 134 #[.string s, .string ⟨#[c]⟩] w fun e w' => e = .returned (.int .i64 (idxI c s)) ∧ w = w' := by
  go_enter Tryz.func134, Tryz.ntmps134
  go_wp2
  go_loop [5] (fun v => ∃ k : Nat, k ≤ s.size ∧ v = .int .i64 k ∧ Hid (∀ j, j < k → bt s j ≠ (c.toNat : Int))) (fun v => s.size - (intOf v).toNat)
  case atStart => exact ⟨0, by omega, rfl, (show ∀ j, j < 0 → _ from fun j hj => by omega)⟩
  case round =>
    obtain ⟨k, hk, rfl, hg⟩ := hrel
    by_cases hlt : k < s.size
    · have hp := piece1 s c k hlt
      by_cases hc : bt s k = (c.toNat : Int)
      · rw [show decide (bt s k = (c.toNat : Int)) = true by simpa using hc] at hp
        have HE : Hid (idxI c s = (k : Int)) := Lib.hid (by unfold idxI; rw [fc_eq c s k hlt hc hg.out, if_pos hlt])
        clear hc
        go_wp2
        go_ret
        exact ⟨by rw [HE.out]; rfl, rfl⟩
      · rw [show decide (bt s k = (c.toNat : Int)) = false by simpa using hc] at hp
        have HC := Lib.hid hc
        clear hc
        go_wp2
        go_round
        case rel => exact ⟨k + 1, by omega, by go_num, ne_succ hg.out HC.out⟩
        case measure => simp [intOf]; omega
    · obtain rfl : k = s.size := by omega
      have HE : Hid (idxI c s = -1) := Lib.hid (by unfold idxI; rw [fc_all c s hg.out, if_neg (by omega)])
      go_wp2
      go_ret
      exact ⟨by rw [HE.out]; rfl, rfl⟩

/-- What a cut at the first byte c gives. -/
def cutV (c : UInt8) (s : ByteArray) : Value := if fc c s < s.size then .tuple #[.string (s.extract 0 (fc c s)), .string (s.extract (fc c s + 1) s.size), .bool true] else .tuple #[.string s, .string ⟨#[]⟩, .bool false]


set_option maxRecDepth 20000 in
set_option maxHeartbeats 400000 in
theorem zzContains1 (s : ByteArray) (c : UInt8) (w : World) (hs : s.size ≤ 4611686018427387904) :
    Calls Tryz.prog 112 #[.string s, .string ⟨#[c]⟩] w fun e w' => e = .returned (.bool (decide (fc c s < s.size))) ∧ w = w' := by
  by_cases h : fc c s < s.size
  · have HI : Hid (idxI c s = (fc c s : Int)) := Lib.hid (by unfold idxI; rw [if_pos h])
    have HB : Hid (decide (fc c s < s.size) = true) := Lib.hid (by simpa using h)
    clear h
    obtain ⟨i, hi⟩ : ∃ i, fc c s = i := ⟨_, rfl⟩
    rw [hi] at HI
    clear hi
    go_enter Tryz.func112, Tryz.ntmps112
    go_wp2_with (go_at_call 134; refine (zzIndex1 s c w hs).mono ?_; rw [HI.out]; rintro e w' ⟨rfl, rfl⟩)
    go_ret
    exact ⟨by rw [HB.out]; rfl, rfl⟩
  · have HI : Hid (idxI c s = -1) := Lib.hid (by unfold idxI; rw [if_neg h])
    have HB : Hid (decide (fc c s < s.size) = false) := Lib.hid (by simpa using h)
    clear h
    go_enter Tryz.func112, Tryz.ntmps112
    go_wp2_with (go_at_call 134; refine (zzIndex1 s c w hs).mono ?_; rw [HI.out]; rintro e w' ⟨rfl, rfl⟩)
    go_ret
    exact ⟨by rw [HB.out]; rfl, rfl⟩
set_option maxRecDepth 20000 in
set_option maxHeartbeats 400000 in
theorem pubHasNUL (s : ByteArray) (w : World) (hs : s.size ≤ 4611686018427387904) :
    Calls Tryz.prog 72 #[.string s] w fun e w' => e = .returned (.bool (decide (fc 0 s < s.size))) ∧ w = w' := by
  go_enter Tryz.func72, Tryz.ntmps72
  go_wp2_with (go_at_call 112; refine (zzContains1 s 0 w hs).mono ?_; rintro e w' ⟨rfl, rfl⟩)
  go_ret
  exact ⟨rfl, rfl⟩
end Go.Proofs.YtepeehjajhehfaaGreatDoor
