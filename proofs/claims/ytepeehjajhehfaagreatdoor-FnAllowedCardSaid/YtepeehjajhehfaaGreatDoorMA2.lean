/- The law FnSplit: its plain part and its walks. Walks of zzIndex, zzContains, zzCut at one byte; of spec.cut. Decimal digits: plain words; walks of spec.digits, spec.decimal, spec.cut, spec.HasNUL; what strconv's numbers say of them. Verdicts of package spec: when, all, small, moment, HasData, slashed, odd; in plain words and walked. Verdicts of strings and times of package spec: plain words; walks. Decimal digits of a number: plain words; the walk of spec.number. The walk of spec.number. Words on pieces in memory; the walks of the functions that convert lists of pieces. Rows of strings and of records; joined texts; zzSplit. The walk of spec.PutRecord. The walk of spec.Map01. Rows of records in memory. spec.Strange, spec.promoted: walks. Walks of slices.Clone, of the field's string, and of the law FnText. Laws and walks on strings: 'copy(dst, s)' of a string into a block that is known whole; spec.HasNUL; laws.same. spec.promoted: its walk. -/
import Derived.Test.YtepeehjajhehfaaGreatDoorRows
import Derived.Test.YtepeehjajhehfaaGreatDoorMA1
import Derived.Test.YtepeehjajhehfaaGreatDoorShelf
import Derived.Laws.RangeString
import Derived.Deep.CutBlock
import Derived.Deep.DeepCutAuto
import Derived.Lib.LastIndexByte
import Derived.Deep.LoopGhost
import Derived.Deep.RegionHeld3
import Derived.Lib.IndexBytes
import Derived.Lib.ParseIntB
import Derived.Laws.AppendOwn
import Derived.Lib.BufferWrite
namespace Go.Proofs.YtepeehjajhehfaaGreatDoor
open Go.RowKit Go.PlainAid

/-- All bytes are below 128, and none is 0. -/
def Asc (s : ByteArray) : Prop := ∀ k, k < s.size → 0 < bt s k ∧ bt s k < 128
noncomputable def asc (s : ByteArray) : Bool := @decide (Asc s) (Classical.propDecidable _)
theorem asc_true {s : ByteArray} (h : Asc s) : asc s = true := by simp [asc, h]
theorem asc_false {s : ByteArray} (h : ¬ Asc s) : asc s = false := by simp [asc, h]
theorem asc_bad {s : ByteArray} (k : Nat) (hk : k < s.size) (h : ¬ (0 < bt s k ∧ bt s k < 128)) : asc s = false := asc_false fun hh => h (hh k hk)
theorem all_succ {p : Nat → Prop} {k : Nat} (h : ∀ j, j < k → p j) (h1 : p k) : ∀ j, j < k + 1 → p j := by
  intro j hj
  by_cases h2 : j < k
  · exact h j h2
  · obtain rfl : j = k := by omega
    exact h1

set_option maxRecDepth 20000 in
set_option maxHeartbeats 400000 in
theorem specASCII (s : ByteArray) (w : World) (hs : s.size ≤ 4611686018427387904) :
    Calls Tryz.prog 40 #[.string s] w fun e w' => e = .returned (.bool (asc s)) ∧ w = w' := by
  have hb := get_bt s
  go_enter Tryz.func40, Tryz.ntmps40
  go_wp2
  go_loop [6] (fun v => ∃ k : Nat, k ≤ s.size ∧ v = .int .i64 k ∧ Hid (∀ j, j < k → 0 < bt s j ∧ bt s j < 128)) (fun v => s.size - (intOf v).toNat)
  case atStart => exact ⟨0, by omega, rfl, (show ∀ j, j < 0 → _ from fun j hj => by omega)⟩
  case round =>
    obtain ⟨k, hk, rfl, hg⟩ := hrel
    by_cases hlt : k < s.size
    · have b1 := bt_nonneg s k
      have b2 := bt_le s k
      by_cases t1 : 128 ≤ bt s k
      · have HE := Lib.hid (asc_bad k hlt (by omega))
        go_wp2
        go_ret
        exact ⟨by rw [HE.out]; rfl, rfl⟩
      by_cases t2 : bt s k = 0
      · have HE := Lib.hid (asc_bad k hlt (by omega))
        have t2' : (bt s k == 0) = true := by rw [t2]; rfl
        clear t2
        go_wp2
        go_ret
        exact ⟨by rw [HE.out]; rfl, rfl⟩
      · have t2' : (bt s k == 0) = false := by simpa using t2
        have HE : Hid (0 < bt s k ∧ bt s k < 128) := by show _ ∧ _; omega
        go_wp2
        go_round
        case rel => exact ⟨k + 1, by omega, by go_num, all_succ hg.out HE.out⟩
        case measure => simp [intOf]; omega
    · obtain rfl : k = s.size := by omega
      have HE := Lib.hid (asc_true (s := s) hg.out)
      go_wp2
      go_ret
      exact ⟨by rw [HE.out]; rfl, rfl⟩

/-- The Go text's own test on a string of ASCII. -/
theorem next_bt (w : World) (s : ByteArray) (pos : Nat) (ty : TypeId) (h : pos < s.size) (ha : bt s pos < 128) :
    (Instr.next (.pointer (some ⟨w.heap.size, 0, none⟩)) true ty).run Tryz.prog (w.iter s pos) = .ok (.tuple #[.bool true, .int .i64 pos, .int .i32 (bt s pos)]) (w.iter s (pos + 1)) := by
  have e : ((s[pos]'h).toNat : Int) = bt s pos := get_bt s pos h
  have h1 : (s[pos]'h).toNat < 128 := by omega
  rw [run_next_ascii w s pos ty h h1, e]

set_option maxRecDepth 20000 in
set_option maxHeartbeats 400000 in
theorem isASCII_yes (s : ByteArray) (w : World) (hs : s.size ≤ 4611686018427387904) (hA : Asc s) :
    Calls Tryz.prog 74 #[.string s] w fun e w' => e = .returned (.bool true) ∧ Below w.heap.size w w' := by
  have HA := Lib.hid hA
  clear hA
  go_enter Tryz.func74, Tryz.ntmps74
  go_wp2
  go_loopg [7] (s.size + 1) (fun gq v wr => ∃ k : Nat, k ≤ s.size ∧ k + gq = s.size + 1 ∧ wr = w.iter s k)
  case atStart => exact ⟨0, by omega, by omega, rfl⟩
  case round =>
    obtain ⟨k, hk, hkg, rfl⟩ := hrel
    have HKG := Lib.hid hkg
    clear hkg
    by_cases hlt : k < s.size
    · obtain ⟨b1, b2⟩ := HA.out k hlt
      have hn := next_bt w s k
      have t2 : (bt s k == 0) = false := by rw [beq_eq_false_iff_ne]; omega
      go_wp2
      go_roundg (gk - 1)
      case measure => have := HKG.out; omega
      case rel => exact ⟨k + 1, by omega, by have := HKG.out; omega, rfl⟩
    · have hn := fun ty => run_next_end (P := Tryz.prog) w s k ty hlt
      go_wp2
      go_ret
      exact ⟨rfl, (Below.refl _ _).alloc (Nat.le_refl _) _⟩

/-! ### Where a path can be parted -/
def Sp (s : ByteArray) (i : Nat) : Prop := 1 ≤ i ∧ i ≤ 155 ∧ i < s.size ∧ bt s i = 47 ∧ 1 ≤ (s.size : Int) - i - 1 ∧ (s.size : Int) - i - 1 ≤ 100
noncomputable def spB (s : ByteArray) (i : Nat) : Bool := @decide (Sp s i) (Classical.propDecidable _)
theorem spB_true {s : ByteArray} {i : Nat} (h : Sp s i) : spB s i = true := by simp [spB, h]
theorem spB_false {s : ByteArray} {i : Nat} (h : ¬ Sp s i) : spB s i = false := by simp [spB, h]

set_option maxRecDepth 20000 in
set_option maxHeartbeats 800000 in
theorem specSplit (s : ByteArray) (i : Nat) (w : World) (hs : s.size ≤ 4611686018427387904) (hi : i ≤ 4611686018427387904) :
    Calls Tryz.prog 42 #[.string s, .int .i64 i] w fun e w' => e = .returned (.bool (spB s i)) ∧ w = w' := by
  have hb := get_bt s
  by_cases t1 : i < 1
  · have HE := Lib.hid (spB_false (s := s) (i := i) (fun h => by unfold Sp at h; omega))
    go_enter Tryz.func42, Tryz.ntmps42
    go_wp2
    go_ret
    exact ⟨by rw [HE.out]; rfl, rfl⟩
  by_cases t2 : 155 < i
  · have HE := Lib.hid (spB_false (s := s) (i := i) (fun h => by unfold Sp at h; omega))
    go_enter Tryz.func42, Tryz.ntmps42
    go_wp2
    go_ret
    exact ⟨by rw [HE.out]; rfl, rfl⟩
  by_cases t3 : s.size ≤ i
  · have HE := Lib.hid (spB_false (s := s) (i := i) (fun h => by unfold Sp at h; omega))
    go_enter Tryz.func42, Tryz.ntmps42
    go_wp2
    go_ret
    exact ⟨by rw [HE.out]; rfl, rfl⟩
  have hlt : i < s.size := by omega
  by_cases t4 : bt s i = 47
  · have t4' : (bt s i == 47) = true := by rw [t4]; rfl
    by_cases t5 : (s.size : Int) - i - 1 < 1
    · have HE := Lib.hid (spB_false (s := s) (i := i) (fun h => by unfold Sp at h; omega))
      clear t4
      go_enter Tryz.func42, Tryz.ntmps42
      go_wp2
      go_ret
      exact ⟨by rw [HE.out]; rfl, rfl⟩
    have HE : Hid (spB s i = decide ((s.size : Int) - i - 1 ≤ 100)) := by
      show _ = _
      by_cases t6 : (s.size : Int) - i - 1 ≤ 100
      · rw [spB_true (by unfold Sp; omega)]; simp [t6]
      · rw [spB_false (fun h => by unfold Sp at h; omega)]; simp [t6]
    clear t4
    go_enter Tryz.func42, Tryz.ntmps42
    go_wp2
    go_ret
    exact ⟨by rw [HE.out]; rfl, rfl⟩
  · have t4' : (bt s i == 47) = false := by simpa using t4
    have HE := Lib.hid (spB_false (s := s) (i := i) (fun h => by unfold Sp at h; omega))
    clear t4
    go_enter Tryz.func42, Tryz.ntmps42
    go_wp2
    go_ret
    exact ⟨by rw [HE.out]; rfl, rfl⟩

set_option maxRecDepth 20000 in
set_option maxHeartbeats 800000 in
theorem specSplits (s : ByteArray) (w : World) (hs : s.size ≤ 4611686018427387903) (hno : ∀ i, ¬ Sp s i) :
    Calls Tryz.prog 22 #[.string s] w fun e w' => e = .returned (.bool false) ∧ w = w' := by
  have HNO := Lib.hid hno
  clear hno
  go_enter Tryz.func22, Tryz.ntmps22
  go_wp2
  go_loop [6] (fun v => ∃ k : Nat, k ≤ s.size ∧ v = .int .i64 k) (fun v => s.size - (intOf v).toNat)
  case atStart => exact ⟨0, by omega, rfl⟩
  case round =>
    obtain ⟨k, hk, rfl⟩ := hrel
    by_cases hlt : k < s.size
    · have HE := Lib.hid (spB_false (HNO.out k))
      go_wp2_with (go_at_call 42; refine (specSplit s k _ (by omega) (by omega)).mono ?_; rw [HE.out]; rintro e w' ⟨rfl, rfl⟩)
      go_round
      case rel => exact ⟨k + 1, by omega, by go_num⟩
      case measure => simp [intOf]; omega
    · go_wp2
      go_ret
      exact ⟨rfl, rfl⟩
end Go.Proofs.YtepeehjajhehfaaGreatDoor
namespace Go.Proofs.YtepeehjajhehfaaGreatDoor
open Go.RowKit Go.PlainAid
set_option linter.unusedVariables false

/-- Where the first byte c is. -/
def fc (c : UInt8) (s : ByteArray) : Nat := s.data.toList.findIdx (· == c)
theorem fc_le (c : UInt8) (s : ByteArray) : fc c s ≤ s.size := by
  unfold fc
  have := List.findIdx_le_length (p := (· == c)) (xs := s.data.toList)
  have e : s.data.toList.length = s.size := (Lib.size_eq s).symm
  omega
theorem bt_list (s : ByteArray) (k : Nat) (h : k < s.data.toList.length) : bt s k = ((s.data.toList[k]).toNat : Int) := by
  have hs : k < s.size := by rw [Lib.size_eq]; exact h
  rw [← get_bt s k hs]
  rfl
theorem fc_eq (c : UInt8) (s : ByteArray) (k : Nat) (hk : k < s.size) (h0 : bt s k = (c.toNat : Int)) (h : ∀ i, i < k → bt s i ≠ (c.toNat : Int)) : fc c s = k := by
  unfold fc
  have hl : s.data.toList.length = s.size := (Lib.size_eq s).symm
  rw [List.findIdx_eq (by omega)]
  refine ⟨?_, fun j hj => ?_⟩
  · rw [bt_list s k (by omega)] at h0
    have : s.data.toList[k] = c := UInt8.toNat_inj.1 (by omega)
    simp [this]
  · have := h j hj
    rw [bt_list s j (by omega)] at this
    have h2 : s.data.toList[j] ≠ c := fun h3 => this (by rw [h3])
    simpa using h2
theorem fc_all (c : UInt8) (s : ByteArray) (h : ∀ i, i < s.size → bt s i ≠ (c.toNat : Int)) : fc c s = s.size := by
  unfold fc
  have hl : s.data.toList.length = s.size := (Lib.size_eq s).symm
  rw [← hl, List.findIdx_eq_length]
  intro x hx
  obtain ⟨i, hi, rfl⟩ := List.getElem_of_mem hx
  have := h i (by omega)
  rw [bt_list s i hi] at this
  have h2 : s.data.toList[i] ≠ c := fun h3 => this (by rw [h3])
  simpa using h2
theorem findIdx_at (l : List UInt8) (c : UInt8) (h : l.findIdx (· == c) < l.length) : l[l.findIdx (· == c)] = c := by
  have := List.findIdx_getElem (w := h)
  simpa using this
theorem findIdx_lo (l : List UInt8) (c : UInt8) (i : Nat) (hi : i < l.findIdx (· == c)) (h : i < l.length) : l[i] ≠ c := by
  have := List.not_of_lt_findIdx hi
  simpa using this
theorem beq_one (x c : UInt8) : ([x] == [c]) = decide ((x.toNat : Int) = (c.toNat : Int)) := by
  by_cases h : x = c
  · rw [h]; simp
  · have h2 : ¬ (x.toNat : Int) = (c.toNat : Int) := fun h3 => h (UInt8.toNat_inj.1 (by omega))
    rw [decide_eq_false h2]
    simpa using h
theorem fc_lt_bt (c : UInt8) (s : ByteArray) (h : fc c s < s.size) : bt s (fc c s) = (c.toNat : Int) ∧ ∀ i, i < fc c s → bt s i ≠ (c.toNat : Int) := by
  have hl : s.data.toList.length = s.size := (Lib.size_eq s).symm
  have h' : s.data.toList.findIdx (· == c) < s.data.toList.length := by unfold fc at h; omega
  constructor
  · unfold fc
    rw [bt_list s _ h', findIdx_at]
  · intro i hi
    have hi' : i < s.data.toList.findIdx (· == c) := hi
    rw [bt_list s i (by omega)]
    intro h3
    exact findIdx_lo _ _ i hi' (by omega) (UInt8.toNat_inj.1 (by omega))
theorem ne_succ {s : ByteArray} {c : UInt8} {k : Nat} (h : ∀ j, j < k → bt s j ≠ (c.toNat : Int)) (h1 : bt s k ≠ (c.toNat : Int)) : ∀ j, j < k + 1 → bt s j ≠ (c.toNat : Int) := by
  intro j hj
  by_cases h2 : j < k
  · exact h j h2
  · obtain rfl : j = k := by omega
    exact h1
theorem piece1 (s : ByteArray) (c : UInt8) (k : Nat) (hk : k < s.size) : ((s.extract k (k + 1)).toList == [c]) = decide (bt s k = (c.toNat : Int)) := by
  have hl : s.data.toList.length = s.size := (Lib.size_eq s).symm
  rw [Lib.toList_data, Lib.extract_data, show k + 1 - k = 1 by omega, List.drop_eq_getElem_cons (by omega), bt_list s k (by omega)]
  have e : (s.data.toList[k] :: s.data.toList.drop (k + 1)).take 1 = [s.data.toList[k]] := by simp
  rw [e, beq_one]
/-- The index as zzIndex gives it. -/
def idxI (c : UInt8) (s : ByteArray) : Int := if fc c s < s.size then (fc c s : Int) else -1

set_option maxRecDepth 20000 in
set_option maxHeartbeats 400000 in
theorem zzIndex1 (s : ByteArray) (c : UInt8) (w : World) (hs : s.size ≤ 4611686018427387904) :
    Calls Tryz.prog 134 #[.string s, .string ⟨#[c]⟩] w fun e w' => e = .returned (.int .i64 (idxI c s)) ∧ w = w' := by
  go_enter Tryz.func134, Tryz.ntmps134
  go_wp2
  go_loop [5] (fun v => ∃ k : Nat, k ≤ s.size ∧ v = .int .i64 k ∧ Hid (∀ j, j < k → bt s j ≠ (c.toNat : Int))) (fun v => s.size - (intOf v).toNat)
  case atStart => exact ⟨0, by omega, rfl, (show ∀ j, j < 0 → _ from fun j hj => by omega)⟩
  case round =>
    obtain ⟨k, hk, rfl, hg⟩ := hrel
    by_cases hlt : k < s.size
    · have hp := piece1 s c k hlt
      by_cases hc : bt s k = (c.toNat : Int)
      · rw [show decide (bt s k = (c.toNat : Int)) = true by simpa using hc] at hp
        have HE : Hid (idxI c s = (k : Int)) := Lib.hid (by unfold idxI; rw [fc_eq c s k hlt hc hg.out, if_pos hlt])
        clear hc
        go_wp2
        go_ret
        exact ⟨by rw [HE.out]; rfl, rfl⟩
      · rw [show decide (bt s k = (c.toNat : Int)) = false by simpa using hc] at hp
        have HC := Lib.hid hc
        clear hc
        go_wp2
        go_round
        case rel => exact ⟨k + 1, by omega, by go_num, ne_succ hg.out HC.out⟩
        case measure => simp [intOf]; omega
    · obtain rfl : k = s.size := by omega
      have HE : Hid (idxI c s = -1) := Lib.hid (by unfold idxI; rw [fc_all c s hg.out, if_neg (by omega)])
      go_wp2
      go_ret
      exact ⟨by rw [HE.out]; rfl, rfl⟩

/-- What a cut at the first byte c gives. -/
def cutV (c : UInt8) (s : ByteArray) : Value := if fc c s < s.size then .tuple #[.string (s.extract 0 (fc c s)), .string (s.extract (fc c s + 1) s.size), .bool true] else .tuple #[.string s, .string ⟨#[]⟩, .bool false]


set_option maxRecDepth 20000 in
set_option maxHeartbeats 400000 in
theorem zzContains1 (s : ByteArray) (c : UInt8) (w : World) (hs : s.size ≤ 4611686018427387904) :
    Calls Tryz.prog 112 #[.string s, .string ⟨#[c]⟩] w fun e w' => e = .returned (.bool (decide (fc c s < s.size))) ∧ w = w' := by
  by_cases h : fc c s < s.size
  · have HI : Hid (idxI c s = (fc c s : Int)) := Lib.hid (by unfold idxI; rw [if_pos h])
    have HB : Hid (decide (fc c s < s.size) = true) := Lib.hid (by simpa using h)
    clear h
    obtain ⟨i, hi⟩ : ∃ i, fc c s = i := ⟨_, rfl⟩
    rw [hi] at HI
    clear hi
    go_enter Tryz.func112, Tryz.ntmps112
    go_wp2_with (go_at_call 134; refine (zzIndex1 s c w hs).mono ?_; rw [HI.out]; rintro e w' ⟨rfl, rfl⟩)
    go_ret
    exact ⟨by rw [HB.out]; rfl, rfl⟩
  · have HI : Hid (idxI c s = -1) := Lib.hid (by unfold idxI; rw [if_neg h])
    have HB : Hid (decide (fc c s < s.size) = false) := Lib.hid (by simpa using h)
    clear h
    go_enter Tryz.func112, Tryz.ntmps112
    go_wp2_with (go_at_call 134; refine (zzIndex1 s c w hs).mono ?_; rw [HI.out]; rintro e w' ⟨rfl, rfl⟩)
    go_ret
    exact ⟨by rw [HB.out]; rfl, rfl⟩
set_option maxRecDepth 20000 in
set_option maxHeartbeats 400000 in
theorem pubHasNUL (s : ByteArray) (w : World) (hs : s.size ≤ 4611686018427387904) :
    Calls Tryz.prog 72 #[.string s] w fun e w' => e = .returned (.bool (decide (fc 0 s < s.size))) ∧ w = w' := by
  go_enter Tryz.func72, Tryz.ntmps72
  go_wp2_with (go_at_call 112; refine (zzContains1 s 0 w hs).mono ?_; rintro e w' ⟨rfl, rfl⟩)
  go_ret
  exact ⟨rfl, rfl⟩
end Go.Proofs.YtepeehjajhehfaaGreatDoor
namespace Go.Proofs.YtepeehjajhehfaaGreatDoor
open Go.RowKit Go.PlainAid
set_option linter.unusedVariables false

/-- The number of decimal digits behind acc. -/
def vl (acc : Nat) (l : List UInt8) : Nat := l.foldl (fun a c => a * 10 + (c.toNat - 48)) acc
def dig (c : UInt8) : Prop := 48 ≤ c.toNat ∧ c.toNat ≤ 57
def allDig (l : List UInt8) : Prop := ∀ c ∈ l, dig c
theorem vl_cons (acc : Nat) (c : UInt8) (l : List UInt8) : vl acc (c :: l) = vl (acc * 10 + (c.toNat - 48)) l := by unfold vl; rw [List.foldl_cons]
theorem vl_snoc (acc : Nat) (c : UInt8) (l : List UInt8) : vl acc (l ++ [c]) = vl acc l * 10 + (c.toNat - 48) := by simp [vl]
theorem vl_ge : ∀ (l : List UInt8) (acc : Nat), acc ≤ vl acc l
  | [], acc => Nat.le_refl _
  | c :: l, acc => by
    have := vl_ge l (acc * 10 + (c.toNat - 48))
    rw [vl_cons]
    omega
theorem vl_app (acc : Nat) (a b : List UInt8) : vl acc (a ++ b) = vl (vl acc a) b := by simp [vl]
theorem allDig_cons {c : UInt8} {l : List UInt8} : allDig (c :: l) ↔ dig c ∧ allDig l := by simp [allDig]
theorem uintM_ok (M : Nat) (hM : M / 10 + 1 = 1844674407370955162) : ∀ (l : List UInt8) (acc u : Nat), acc ≤ M → (Lib.parseUintM M acc l = .ok u ↔ allDig l ∧ vl acc l = u ∧ u ≤ M)
  | [], acc, u, ha => by
    simp only [Lib.parseUintM]
    constructor
    · intro h
      have h2 := Lib.NumEnd.ok.inj h
      exact ⟨fun c hc => by simp at hc, h2, by omega⟩
    · rintro ⟨_, h, _⟩
      rw [← h]
      rfl
  | c :: l, acc, u, ha => by
    simp only [Lib.parseUintM]
    by_cases hd : 48 ≤ c.toNat ∧ c.toNat ≤ 57
    · rw [if_pos hd]
      by_cases h1 : 1844674407370955162 ≤ acc
      · rw [if_pos h1]
        constructor
        · intro h; cases h
        · rintro ⟨_, h, hu⟩
          have := vl_ge l (acc * 10 + (c.toNat - 48))
          rw [vl_cons] at h
          omega
      · rw [if_neg h1]
        by_cases h2 : M < acc * 10 + (c.toNat - 48)
        · rw [if_pos h2]
          constructor
          · intro h; cases h
          · rintro ⟨_, h, hu⟩
            have := vl_ge l (acc * 10 + (c.toNat - 48))
            rw [vl_cons] at h
            omega
        · rw [if_neg h2, uintM_ok M hM l _ u (by omega), vl_cons, allDig_cons]
          exact ⟨fun ⟨a, b⟩ => ⟨⟨hd, a⟩, b⟩, fun ⟨⟨_, a⟩, b⟩ => ⟨a, b⟩⟩
    · rw [if_neg hd]
      constructor
      · intro h; cases h
      · rintro ⟨h, _⟩
        exact absurd (allDig_cons.1 h).1 hd
theorem uintB_ok (l : List UInt8) (u : Nat) : Lib.parseUintB 64 l = .ok u ↔ l ≠ [] ∧ allDig l ∧ vl 0 l = u ∧ u ≤ 18446744073709551615 := by
  unfold Lib.parseUintB
  by_cases h : l = []
  · subst h
    simp
  · rw [if_neg h]
    have : (2 : Nat) ^ 64 - 1 = 18446744073709551615 := by decide
    rw [this, uintM_ok 18446744073709551615 (by decide) l 0 u (by omega)]
    exact ⟨fun a => ⟨h, a⟩, fun a => a.2⟩
theorem intB_of_u {c : UInt8} {r : List UInt8} {u : Nat} (h1 : c.toNat ≠ 43) (h2 : c.toNat ≠ 45) (hu : Lib.parseUintB 64 (c :: r) = .ok u) (hv : u ≤ 9223372036854775807) : Lib.parseIntB 64 (c :: r) = .ok (u : Int) := by
  have e3 : ¬ (2 : Nat) ^ (64 - 1) ≤ u := by have : (2 : Nat) ^ (64 - 1) = 9223372036854775808 := by decide
                                             omega
  simp only [Lib.parseIntB, h1, h2, or_self, if_false, hu, e3, false_and, and_false]
/-- A plain number. -/
theorem intB_plain {l : List UInt8} (hne : l ≠ []) (hd : allDig l) (hv : vl 0 l ≤ 9223372036854775807) : Lib.parseIntB 64 l = .ok (vl 0 l : Int) := by
  cases l with
  | nil => exact absurd rfl hne
  | cons c r =>
    have hc := (allDig_cons.1 hd).1
    unfold dig at hc
    have hu := (uintB_ok (c :: r) (vl 0 (c :: r))).2 ⟨hne, hd, rfl, by omega⟩
    exact intB_of_u (by omega) (by omega) hu hv
/-- Without a sign, what is no number of digits alone is none. -/
theorem intB_bad {l : List UInt8} (hne : l ≠ []) (h0 : ∀ c, l.head? = some c → c.toNat ≠ 43 ∧ c.toNat ≠ 45) (hd : ¬ allDig l) : ∀ v, Lib.parseIntB 64 l ≠ .ok v := by
  intro v hv
  cases l with
  | nil => exact absurd rfl hne
  | cons c r =>
    obtain ⟨a, b⟩ := h0 c rfl
    unfold Lib.parseIntB at hv
    have e1 : ¬ (c.toNat = 43 ∨ c.toNat = 45) := by omega
    simp only [e1, if_false] at hv
    cases hu : Lib.parseUintB 64 (c :: r) with
    | ok u => exact hd ((uintB_ok _ u).1 hu).2.1
    | _ => rw [hu] at hv; cases hv

theorem bt_of (s : ByteArray) (k : Nat) (h : k < s.size) : ∃ c, s.data.toList[k]? = some c ∧ bt s k = (c.toNat : Int) := by
  have hl : s.data.toList.length = s.size := (Lib.size_eq s).symm
  exact ⟨s.data.toList[k], List.getElem?_eq_getElem (by omega), bt_list s k (by omega)⟩
theorem take_bt (s : ByteArray) (k : Nat) (h : k < s.size) : ∃ c, s.data.toList.take (k + 1) = s.data.toList.take k ++ [c] ∧ bt s k = (c.toNat : Int) := by
  have hl : s.data.toList.length = s.size := (Lib.size_eq s).symm
  exact ⟨s.data.toList[k], List.take_succ_eq_append_getElem (by omega), bt_list s k (by omega)⟩
theorem allDig_of (s : ByteArray) (k : Nat) (hk : k ≤ s.size) (h : ∀ j, j < k → 48 ≤ bt s j ∧ bt s j ≤ 57) : allDig (s.data.toList.take k) := by
  have hl : s.data.toList.length = s.size := (Lib.size_eq s).symm
  intro c hc
  obtain ⟨i, hi, rfl⟩ := List.getElem_of_mem hc
  rw [List.length_take] at hi
  have := h i (by omega)
  rw [bt_list s i (by omega)] at this
  rw [List.getElem_take]
  unfold dig
  omega
theorem allDig_bt (s : ByteArray) (h : allDig s.data.toList) (j : Nat) (hj : j < s.size) : 48 ≤ bt s j ∧ bt s j ≤ 57 := by
  have hl : s.data.toList.length = s.size := (Lib.size_eq s).symm
  have := h _ (List.getElem_mem (show j < s.data.toList.length by omega))
  rw [bt_list s j (by omega)]
  unfold dig at this
  omega
theorem take_all (s : ByteArray) : s.data.toList.take s.size = s.data.toList := List.take_of_length_le (by rw [← Lib.size_eq]; exact Nat.le_refl _)
/-- What spec.decimal takes. -/
def DecOk (s : ByteArray) : Prop := 1 ≤ s.size ∧ s.size ≤ 19 ∧ allDig s.data.toList ∧ vl 0 s.data.toList ≤ 9223372036854775807
def DecPost (s : ByteArray) (w : World) (e : Ending) (w' : World) : Prop := ((DecOk s ∧ e = .returned (.tuple #[.int .i64 (vl 0 s.data.toList : Nat), .bool true])) ∨ (¬ DecOk s ∧ e = .returned (.tuple #[.int .i64 0, .bool false]))) ∧ w = w'
/-- What spec.digits takes. -/
def DigOk (s : ByteArray) : Prop := 0 < s.size ∧ allDig s.data.toList
def DigPost (s : ByteArray) (w : World) (e : Ending) (w' : World) : Prop := ((DigOk s ∧ e = .returned (.bool true)) ∨ (¬ DigOk s ∧ e = .returned (.bool false))) ∧ w = w'
theorem vl_take_le (l : List UInt8) (k : Nat) : vl 0 (l.take k) ≤ vl 0 l := by
  have h := List.take_append_drop k l
  have := vl_app 0 (l.take k) (l.drop k)
  rw [h] at this
  rw [this]
  exact vl_ge _ _

set_option maxRecDepth 20000 in
set_option maxHeartbeats 800000 in
theorem decimal_any (s : ByteArray) (w : World) (hs : s.size ≤ 4611686018427387904) :
    Calls Tryz.prog 34 #[.string s] w (DecPost s w) := by
  have hb := get_bt s
  by_cases h0 : s.size = 0
  · have HD : Hid (¬ DecOk s) := Lib.hid (fun h => by have := h.1; omega)
    have h0' : (s.size : Int) ≤ 0 := by omega
    have h0b : ((s.size : Int) == 0) = true := by rw [beq_iff_eq]; omega
    clear h0
    go_enter Tryz.func34, Tryz.ntmps34
    go_wp2
    go_ret2
    exact ⟨.inr ⟨HD.out, rfl⟩, rfl⟩
  have h0b : ((s.size : Int) == 0) = false := by rw [beq_eq_false_iff_ne]; omega
  by_cases h19 : 19 < s.size
  · have HD : Hid (¬ DecOk s) := Lib.hid (fun h => by have := h.2.1; omega)
    clear h0
    go_enter Tryz.func34, Tryz.ntmps34
    go_wp2
    go_ret2
    exact ⟨.inr ⟨HD.out, rfl⟩, rfl⟩
  have hpos : 1 ≤ s.size := by omega
  clear h0
  go_enter Tryz.func34, Tryz.ntmps34
  go_wp2
  go_loop [4, 17] (fun n i => ∃ k : Nat, k ≤ s.size ∧ i = .int .i64 k ∧ n = .int .i64 (vl 0 (s.data.toList.take k) : Nat) ∧ vl 0 (s.data.toList.take k) ≤ 9223372036854775807 ∧ Hid (∀ j, j < k → 48 ≤ bt s j ∧ bt s j ≤ 57)) (fun _ i => s.size - (intOf i).toNat)
  case atStart => exact ⟨0, by omega, rfl, rfl, by simp [vl], (show ∀ j, j < 0 → _ from fun j hj => by omega)⟩
  case round =>
    obtain ⟨k, hk, rfl, rfl, hn, hg⟩ := hrel
    obtain ⟨n, hnn⟩ : ∃ n, vl 0 (s.data.toList.take k) = n := ⟨_, rfl⟩
    have HNN := Lib.hid hnn
    rw [hnn] at hn ⊢
    clear hnn
    by_cases hlt : k < s.size
    · obtain ⟨c, hc1, hc2⟩ := take_bt s k hlt
      have b1 := bt_nonneg s k
      have b2 := bt_le s k
      by_cases hd : 48 ≤ bt s k ∧ bt s k ≤ 57
      · obtain ⟨d1, d2⟩ := hd
        have HV : Hid (vl 0 (s.data.toList.take (k + 1)) = n * 10 + (bt s k - 48).toNat) := Lib.hid (by rw [hc1, vl_snoc, HNN.out, hc2]; omega)
        by_cases hq : (n : Int) ≤ (9223372036854775807 - (bt s k - 48)) / 10
        · have hm : (n : Int) * 10 + (bt s k - 48) ≤ 9223372036854775807 := by omega
          have HG : Hid (∀ j, j < k + 1 → 48 ≤ bt s j ∧ bt s j ≤ 57) := Lib.hid (fun j hj => by
            by_cases h2 : j < k
            · exact hg.out j h2
            · obtain rfl : j = k := by omega
              exact ⟨d1, d2⟩)
          clear hc1 hc2
          go_wp2
          go_round
          case rel => exact ⟨k + 1, by omega, by go_num, val_i64 (by rw [HV.out]; omega), by rw [HV.out]; omega, HG.out⟩
          case measure => simp [intOf]; omega
        · have HD : Hid (¬ DecOk s) := Lib.hid (fun h => by
            have h1 := vl_take_le s.data.toList (k + 1)
            have h2 := HV.out
            have h3 := h.2.2.2
            omega)
          clear hc1 hc2
          go_wp2
          go_ret2
          exact ⟨.inr ⟨HD.out, rfl⟩, rfl⟩
      · have HD : Hid (¬ DecOk s) := Lib.hid (fun h => hd (allDig_bt s h.2.2.1 k hlt))
        clear hc1 hc2
        by_cases hd1 : bt s k < 48
        · clear hd
          go_wp2
          go_ret2
          exact ⟨.inr ⟨HD.out, rfl⟩, rfl⟩
        · have hd2 : 57 < bt s k := by omega
          clear hd
          go_wp2
          go_ret2
          exact ⟨.inr ⟨HD.out, rfl⟩, rfl⟩
    · obtain rfl : k = s.size := by omega
      have HT := Lib.hid (take_all s)
      have HA := Lib.hid (allDig_of s s.size (Nat.le_refl _) hg.out)
      have HD : Hid (DecOk s ∧ n = vl 0 s.data.toList) := Lib.hid ⟨⟨hpos, by omega, by have := HA.out; rwa [HT.out] at this, by have := HNN.out; rw [HT.out] at this; omega⟩, by have := HNN.out; rw [HT.out] at this; exact this.symm⟩
      go_wp2
      go_ret2
      exact ⟨.inl ⟨HD.out.1, by rw [← HD.out.2]; rfl⟩, rfl⟩

set_option maxRecDepth 20000 in
set_option maxHeartbeats 400000 in
theorem digits_any (s : ByteArray) (w : World) (hs : s.size ≤ 4611686018427387904) :
    Calls Tryz.prog 56 #[.string s] w (DigPost s w) := by
  have hb := get_bt s
  go_enter Tryz.func56, Tryz.ntmps56
  go_wp2
  go_loop [6] (fun i => ∃ k : Nat, k ≤ s.size ∧ i = .int .i64 k ∧ Hid (∀ j, j < k → 48 ≤ bt s j ∧ bt s j ≤ 57)) (fun i => s.size - (intOf i).toNat)
  case atStart => exact ⟨0, by omega, rfl, (show ∀ j, j < 0 → _ from fun j hj => by omega)⟩
  case round =>
    obtain ⟨k, hk, rfl, hg⟩ := hrel
    by_cases hlt : k < s.size
    · have b1 := bt_nonneg s k
      have b2 := bt_le s k
      by_cases hd : 48 ≤ bt s k ∧ bt s k ≤ 57
      · obtain ⟨d1, d2⟩ := hd
        have HG : Hid (∀ j, j < k + 1 → 48 ≤ bt s j ∧ bt s j ≤ 57) := Lib.hid (fun j hj => by
          by_cases h2 : j < k
          · exact hg.out j h2
          · obtain rfl : j = k := by omega
            exact ⟨d1, d2⟩)
        go_wp2
        go_round
        case rel => exact ⟨k + 1, by omega, by go_num, HG.out⟩
        case measure => simp [intOf]; omega
      · have HD : Hid (¬ DigOk s) := Lib.hid (fun h => hd (allDig_bt s h.2 k hlt))
        by_cases hd1 : bt s k < 48
        · clear hd
          go_wp2
          go_ret
          exact ⟨.inr ⟨HD.out, rfl⟩, rfl⟩
        · have hd2 : 57 < bt s k := by omega
          clear hd
          go_wp2
          go_ret
          exact ⟨.inr ⟨HD.out, rfl⟩, rfl⟩
    · obtain rfl : k = s.size := by omega
      have HT := Lib.hid (take_all s)
      have HA := Lib.hid (allDig_of s s.size (Nat.le_refl _) hg.out)
      have HA2 : Hid (allDig s.data.toList) := Lib.hid (by have := HA.out; rwa [HT.out] at this)
      by_cases h0 : 0 < s.size
      · have HZ := Lib.hid h0
        go_wp2
        go_ret
        exact ⟨.inl ⟨⟨HZ.out, HA2.out⟩, rfl⟩, rfl⟩
      · have HZ := Lib.hid h0
        have hz2 : (s.size : Int) ≤ 0 := by omega
        go_wp2
        go_ret
        exact ⟨.inr ⟨fun h => HZ.out h.1, rfl⟩, rfl⟩

set_option maxRecDepth 20000 in
set_option maxHeartbeats 400000 in
theorem specCut (s : ByteArray) (c : UInt8) (w : World) (hs : s.size ≤ 4611686018427387904) :
    Calls Tryz.prog 44 #[.string s, .int .u8 (c.toNat : Int)] w (Quietly (cutV c s) w) := by
  have hb := get_bt s
  go_enter Tryz.func44, Tryz.ntmps44
  go_wp2
  go_loop [10] (fun i => ∃ k : Nat, k ≤ s.size ∧ i = .int .i64 k ∧ Hid (∀ j, j < k → bt s j ≠ (c.toNat : Int))) (fun i => s.size - (intOf i).toNat)
  case atStart => exact ⟨0, by omega, rfl, (show ∀ j, j < 0 → _ from fun j hj => by omega)⟩
  case round =>
    obtain ⟨k, hk, rfl, hg⟩ := hrel
    by_cases hlt : k < s.size
    · by_cases hc : bt s k = (c.toNat : Int)
      · have HE : Hid (fc c s = k) := Lib.hid (fc_eq c s k hlt hc hg.out)
        have HV : Hid (cutV c s = .tuple #[.string (s.extract 0 k), .string (s.extract (k + 1) s.size), .bool true]) := Lib.hid (by unfold cutV; rw [HE.out, if_pos hlt])
        have hc' : (bt s k == (c.toNat : Int)) = true := by simpa using hc
        have h1 : (0 : Int) ≤ (k : Int) := by omega
        have h2 : (k : Int) ≤ (s.size : Int) := by omega
        have h3 : IntKind.i64.wrap ((k : Int) + 1) = (k : Int) + 1 := IntWalk.i64_in _ (by omega)
        have h4 : (0 : Int) ≤ (k : Int) + 1 := by omega
        have h5 : (k : Int) + 1 ≤ (s.size : Int) := by omega
        have h6 : ((k : Int) + 1).toNat = k + 1 := by omega
        clear hc
        go_wp2
        go_region_held3 (fun _ => True) (trivial) (fail)
        go_wp2
        go_ret3
        exact ⟨by rw [HV.out]; rfl, 1, rfl⟩
      · have HC := Lib.hid hc
        have hc' : (bt s k == (c.toNat : Int)) = false := by simpa using hc
        clear hc
        go_wp2
        go_round
        case rel => exact ⟨k + 1, by omega, by go_num, ne_succ hg.out HC.out⟩
        case measure => simp [intOf]; omega
    · obtain rfl : k = s.size := by omega
      have HV : Hid (cutV c s = .tuple #[.string s, .string ⟨#[]⟩, .bool false]) := Lib.hid (by unfold cutV; rw [fc_all c s hg.out, if_neg (by omega)])
      go_wp2
      go_ret3
      exact ⟨by rw [HV.out]; rfl, 0, rfl⟩

set_option maxRecDepth 20000 in
set_option maxHeartbeats 400000 in
theorem specHasNUL (s : ByteArray) (w : World) (hs : s.size ≤ 4611686018427387904) :
    Calls Tryz.prog 39 #[.string s] w fun e w' => e = .returned (.bool (decide (fc 0 s < s.size))) ∧ w = w' := by
  have hb := get_bt s
  go_enter Tryz.func39, Tryz.ntmps39
  go_wp2
  go_loop [6] (fun i => ∃ k : Nat, k ≤ s.size ∧ i = .int .i64 k ∧ Hid (∀ j, j < k → bt s j ≠ ((0 : UInt8).toNat : Int))) (fun i => s.size - (intOf i).toNat)
  case atStart => exact ⟨0, by omega, rfl, (show ∀ j, j < 0 → _ from fun j hj => by omega)⟩
  case round =>
    obtain ⟨k, hk, rfl, hg⟩ := hrel
    by_cases hlt : k < s.size
    · by_cases hc : bt s k = ((0 : UInt8).toNat : Int)
      · have HE : Hid (decide (fc 0 s < s.size) = true) := Lib.hid (by rw [fc_eq 0 s k hlt hc hg.out]; simpa using hlt)
        have hc' : (bt s k == 0) = true := by rw [hc]; rfl
        clear hc
        go_wp2
        go_ret
        exact ⟨by rw [HE.out]; rfl, rfl⟩
      · have HC := Lib.hid hc
        have hc' : (bt s k == 0) = false := by rw [beq_eq_false_iff_ne]; exact hc
        clear hc
        go_wp2
        go_round
        case rel => exact ⟨k + 1, by omega, by go_num, ne_succ hg.out HC.out⟩
        case measure => simp [intOf]; omega
    · obtain rfl : k = s.size := by omega
      have HE : Hid (decide (fc 0 s < s.size) = false) := Lib.hid (by rw [fc_all 0 s hg.out]; simp)
      go_wp2
      go_ret
      exact ⟨by rw [HE.out]; rfl, rfl⟩
end Go.Proofs.YtepeehjajhehfaaGreatDoor
namespace Go.Proofs.YtepeehjajhehfaaGreatDoor
open Go.RowKit Go.PlainAid
set_option linter.unusedVariables false

def whenV (b : Bool) : Int := if b then 1 else 2
set_option maxRecDepth 20000 in
set_option maxHeartbeats 400000 in
theorem specWhen (b : Bool) (w : World) : Calls Tryz.prog 21 #[.bool b] w fun e w' => e = .returned (.int .i64 (whenV b)) ∧ w = w' := by
  cases b
  · go_enter Tryz.func21, Tryz.ntmps21
    go_wp2
    go_ret
    exact ⟨rfl, rfl⟩
  · go_enter Tryz.func21, Tryz.ntmps21
    go_wp2
    go_ret
    exact ⟨rfl, rfl⟩
def joinV (v x : Int) : Int := if x = 2 ∨ (x = 0 ∧ v = 1) then x else v
/-- Verdicts, joined. -/
def allV (xs : List Int) : Int := xs.foldl joinV 1
theorem allV_snoc (xs : List Int) (x : Int) : allV (xs ++ [x]) = joinV (allV xs) x := by simp [allV]
theorem joinV_yes {v x : Int} (h : x = 2 ∨ (x = 0 ∧ v = 1)) : joinV v x = x := by unfold joinV; rw [if_pos h]
theorem joinV_no {v x : Int} (h : ¬ (x = 2 ∨ (x = 0 ∧ v = 1))) : joinV v x = v := by unfold joinV; rw [if_neg h]
set_option maxRecDepth 20000 in
set_option maxHeartbeats 1600000 in
theorem specAll (A : Option Addr) (n c B : Nat) (xs : List Int) (w : World) (hl : xs.length = n) (hr : RC w B A (nums xs)) (hn : n ≤ 2147483647) :
    Calls Tryz.prog 23 #[.slice A n c] w fun e w' => e = .returned (.int .i64 (allV xs)) ∧ w = w' := by
  have HR := Lib.hid hr
  have HL := Lib.hid hl
  clear hr hl
  go_enter Tryz.func23, Tryz.ntmps23
  go_wp2
  go_loopw [3, 8] (fun v i wr => ∃ (k : Nat) (y : Int), k ≤ n ∧ i = .int .i64 k ∧ v = .int .i64 y ∧ Hid (y = allV (xs.take k)) ∧ w = wr) (fun _ i _ => n - (intOf i).toNat)
  case atStart => exact ⟨0, 1, by omega, rfl, rfl, Lib.hid rfl, rfl⟩
  case round =>
    obtain ⟨k, y, hk, rfl, rfl, HY, hw⟩ := hrel
    subst hw
    by_cases hlt : k < n
    · obtain ⟨b, o, rfl, _, hcell⟩ := HR.out.num (k := k) (by rw [HL.out]; exact hlt)
      replace hcell := hcell k (by rw [HL.out]; exact hlt)
      obtain ⟨x, hx⟩ : ∃ x, nv xs k = x := ⟨_, rfl⟩
      have HT : Hid (allV (xs.take (k + 1)) = joinV y x) := Lib.hid (by
        have h1 : k < xs.length := by rw [HL.out]; exact hlt
        have h2 : xs[k] = x := by rw [← hx]; simp [nv, List.getD, h1]
        rw [List.take_succ_eq_append_getElem h1, allV_snoc, ← HY.out, h2])
      rw [hx] at hcell
      have hk0 : (0 : Int) ≤ (k : Int) := by omega
      have hk1 : (k : Int) < (n : Int) := by omega
      clear hx
      by_cases h2 : x = 2
      · subst h2
        have HV : Hid (2 = allV (xs.take (k + 1))) := Lib.hid (by rw [HT.out, joinV_yes (.inl rfl)])
        go_wp2
        go_roundw
        case rel => exact ⟨k + 1, 2, by omega, by go_num, rfl, HV, by first | trivial | rfl⟩
        case measure => simp [intOf] <;> omega
      · have h2' : (x == 2) = false := by simpa using h2
        by_cases h0 : x = 0
        · subst h0
          by_cases h1 : y = 1
          · subst h1
            have HV : Hid (0 = allV (xs.take (k + 1))) := Lib.hid (by rw [HT.out, joinV_yes (.inr ⟨rfl, rfl⟩)])
            go_wp2
            go_roundw
            case rel => exact ⟨k + 1, 0, by omega, by go_num, rfl, HV, by first | trivial | rfl⟩
            case measure => simp [intOf] <;> omega
          · have h1' : (y == 1) = false := by simpa using h1
            have HV : Hid (y = allV (xs.take (k + 1))) := Lib.hid (by rw [HT.out, joinV_no (by omega)])
            go_wp2
            go_roundw
            case rel => exact ⟨k + 1, y, by omega, by go_num, rfl, HV, by first | trivial | rfl⟩
            case measure => simp [intOf] <;> omega
        · have h0' : (x == 0) = false := by simpa using h0
          have HV : Hid (y = allV (xs.take (k + 1))) := Lib.hid (by rw [HT.out, joinV_no (by omega)])
          go_wp2
          go_roundw
          case rel => exact ⟨k + 1, y, by omega, by go_num, rfl, HV, by first | trivial | rfl⟩
          case measure => simp [intOf] <;> omega
    · obtain rfl : k = n := by omega
      have HE : Hid (y = allV xs) := Lib.hid (by rw [HY.out, List.take_of_length_le (by rw [HL.out]; exact Nat.le_refl _)])
      go_wp2
      go_ret
      exact ⟨by rw [HE.out]; rfl, by first | trivial | rfl⟩
/-- What a number comes to in a format. -/
def smallV (n f : Int) (p : Bool) : Int :=
  if f = 3 then (if n < 0 ∨ (72057594037927936 ≤ n ∧ n < 144115188075855872) then 0 else if n < 72057594037927936 then 1 else 2)
  else if f = 2 ∧ p = true then (if n < 0 then 0 else 1) else if 0 ≤ n ∧ n < 2097152 then 1 else 2
set_option maxRecDepth 20000 in
set_option maxHeartbeats 1600000 in
theorem specSmall (n f : Int) (p : Bool) (w : World) (hf : f = 1 ∨ f = 2 ∨ f = 3) :
    Calls Tryz.prog 25 #[.int .i64 n, .int .i64 f, .bool p] w fun e w' => e = .returned (.int .i64 (smallV n f p)) ∧ w = w' := by
  have HW := fun b => specWhen b w
  obtain ⟨V, hV⟩ : ∃ V, smallV n f p = V := ⟨_, rfl⟩
  rw [hV]
  unfold smallV at hV
  rcases hf with rfl | rfl | rfl
  · rw [if_neg (by decide), if_neg (by omega)] at hV
    by_cases h1 : 0 ≤ n
    · by_cases h2 : n < 2097152
      · rw [if_pos ⟨h1, h2⟩] at hV
        subst hV
        go_enter Tryz.func25, Tryz.ntmps25
        go_wp2_with (go_at_call 21; refine (HW _).mono ?_; rintro e w' ⟨rfl, rfl⟩)
        go_ret
        exact ⟨rfl, rfl⟩
      · rw [if_neg (by omega)] at hV
        subst hV
        go_enter Tryz.func25, Tryz.ntmps25
        go_wp2_with (go_at_call 21; refine (HW _).mono ?_; rintro e w' ⟨rfl, rfl⟩)
        go_ret
        exact ⟨rfl, rfl⟩
    · rw [if_neg (by omega)] at hV
      subst hV
      go_enter Tryz.func25, Tryz.ntmps25
      go_wp2_with (go_at_call 21; refine (HW _).mono ?_; rintro e w' ⟨rfl, rfl⟩)
      go_ret
      exact ⟨rfl, rfl⟩
  · rw [if_neg (by decide)] at hV
    cases p with
    | true =>
      rw [if_pos ⟨rfl, rfl⟩] at hV
      by_cases h1 : n < 0
      · rw [if_pos h1] at hV
        subst hV
        go_enter Tryz.func25, Tryz.ntmps25
        go_wp2
        go_ret
        exact ⟨rfl, rfl⟩
      · rw [if_neg h1] at hV
        subst hV
        go_enter Tryz.func25, Tryz.ntmps25
        go_wp2
        go_ret
        exact ⟨rfl, rfl⟩
    | false =>
      rw [if_neg (by simp)] at hV
      by_cases h1 : 0 ≤ n
      · by_cases h2 : n < 2097152
        · rw [if_pos ⟨h1, h2⟩] at hV
          subst hV
          go_enter Tryz.func25, Tryz.ntmps25
          go_wp2_with (go_at_call 21; refine (HW _).mono ?_; rintro e w' ⟨rfl, rfl⟩)
          go_ret
          exact ⟨rfl, rfl⟩
        · rw [if_neg (by omega)] at hV
          subst hV
          go_enter Tryz.func25, Tryz.ntmps25
          go_wp2_with (go_at_call 21; refine (HW _).mono ?_; rintro e w' ⟨rfl, rfl⟩)
          go_ret
          exact ⟨rfl, rfl⟩
      · rw [if_neg (by omega)] at hV
        subst hV
        go_enter Tryz.func25, Tryz.ntmps25
        go_wp2_with (go_at_call 21; refine (HW _).mono ?_; rintro e w' ⟨rfl, rfl⟩)
        go_ret
        exact ⟨rfl, rfl⟩
  · rw [if_pos rfl] at hV
    by_cases h1 : n < 0
    · rw [if_pos (.inl h1)] at hV
      subst hV
      go_enter Tryz.func25, Tryz.ntmps25
      go_wp2
      go_ret
      exact ⟨rfl, rfl⟩
    · by_cases h2 : 72057594037927936 ≤ n
      · by_cases h3 : n < 144115188075855872
        · rw [if_pos (.inr ⟨h2, h3⟩)] at hV
          subst hV
          go_enter Tryz.func25, Tryz.ntmps25
          go_wp2
          go_ret
          exact ⟨rfl, rfl⟩
        · rw [if_neg (by omega), if_neg (by omega)] at hV
          subst hV
          go_enter Tryz.func25, Tryz.ntmps25
          go_wp2_with (go_at_call 21; refine (HW _).mono ?_; rintro e w' ⟨rfl, rfl⟩)
          go_ret
          exact ⟨by have h4 : ¬ n < 72057594037927936 := by omega
                    simp [whenV, h4], rfl⟩
      · rw [if_neg (by omega), if_pos (by omega)] at hV
        subst hV
        have h4 : n < 72057594037927936 := by omega
        go_enter Tryz.func25, Tryz.ntmps25
        go_wp2_with (go_at_call 21; refine (HW _).mono ?_; rintro e w' ⟨rfl, rfl⟩)
        go_ret
        exact ⟨rfl, rfl⟩
end Go.Proofs.YtepeehjajhehfaaGreatDoor
namespace Go.Proofs.YtepeehjajhehfaaGreatDoor
open Go.RowKit Go.PlainAid
set_option linter.unusedVariables false

/-- Has it a byte 0? -/
def nulB (s : ByteArray) : Bool := decide (fc 0 s < s.size)
/-- What a string comes to in USTAR and in GNU. -/
noncomputable def textV (s : ByteArray) (n f : Int) : Int := if nulB s = true then 0 else if f = 1 then whenV (asc s && decide ((s.size : Int) ≤ n)) else 1
set_option maxRecDepth 20000 in
set_option maxHeartbeats 1600000 in
theorem specText13 (s : ByteArray) (n f : Int) (w : World) (hs : s.size ≤ 4611686018427387904) (hf : f = 1 ∨ f = 3) :
    Calls Tryz.prog 20 #[.string s, .int .i64 n, .int .i64 f] w fun e w' => e = .returned (.int .i64 (textV s n f)) ∧ w = w' := by
  have HN : ∀ w, Calls Tryz.prog 39 #[.string s] w fun e w' => e = .returned (.bool (nulB s)) ∧ w = w' := fun w => specHasNUL s w hs
  have HA := fun w => specASCII s w hs
  obtain ⟨V, hV⟩ : ∃ V, textV s n f = V := ⟨_, rfl⟩
  rw [hV]
  unfold textV at hV
  obtain ⟨b, hb⟩ : ∃ b, nulB s = b := ⟨_, rfl⟩
  obtain ⟨a, ha⟩ : ∃ a, asc s = a := ⟨_, rfl⟩
  rw [hb] at hV HN
  rw [ha] at hV HA
  clear hb ha
  have HN := fun w => Lib.hid (HN w)
  have HA := fun w => Lib.hid (HA w)
  cases b with
  | true =>
    rw [if_pos rfl] at hV
    subst hV
    go_enter Tryz.func20, Tryz.ntmps20
    go_wp2_with (first
      | (go_at_call 39; refine ((HN _).out).mono ?_; rintro e w' ⟨rfl, rfl⟩))
    go_ret
    exact ⟨rfl, rfl⟩
  | false =>
    rw [if_neg (by decide)] at hV
    rcases hf with rfl | rfl
    · rw [if_pos rfl] at hV
      cases a with
      | true =>
        by_cases h1 : (s.size : Int) ≤ n
        · have h2 : decide ((s.size : Int) ≤ n) = true := decide_eq_true h1
          rw [h2] at hV
          subst hV
          go_enter Tryz.func20, Tryz.ntmps20
          go_wp2_with (first
            | (go_at_call 39; refine (HN _).out.mono ?_; rintro e w' ⟨rfl, rfl⟩)
            | (go_at_call 40; refine (HA _).out.mono ?_; rintro e w' ⟨rfl, rfl⟩)
            | (go_at_call 21; refine (specWhen _ _).mono ?_; rintro e w' ⟨rfl, rfl⟩))
          go_ret
          exact ⟨rfl, rfl⟩
        · have h2 : decide ((s.size : Int) ≤ n) = false := decide_eq_false h1
          rw [h2] at hV
          subst hV
          go_enter Tryz.func20, Tryz.ntmps20
          go_wp2_with (first
            | (go_at_call 39; refine (HN _).out.mono ?_; rintro e w' ⟨rfl, rfl⟩)
            | (go_at_call 40; refine (HA _).out.mono ?_; rintro e w' ⟨rfl, rfl⟩)
            | (go_at_call 21; refine (specWhen _ _).mono ?_; rintro e w' ⟨rfl, rfl⟩))
          go_ret
          exact ⟨rfl, rfl⟩
      | false =>
        subst hV
        go_enter Tryz.func20, Tryz.ntmps20
        go_wp2_with (first
          | (go_at_call 39; refine (HN _).out.mono ?_; rintro e w' ⟨rfl, rfl⟩)
          | (go_at_call 40; refine (HA _).out.mono ?_; rintro e w' ⟨rfl, rfl⟩)
          | (go_at_call 21; refine (specWhen _ _).mono ?_; rintro e w' ⟨rfl, rfl⟩))
        go_ret
        exact ⟨rfl, rfl⟩
    · rw [if_neg (by decide)] at hV
      subst hV
      go_enter Tryz.func20, Tryz.ntmps20
      go_wp2_with (first
        | (go_at_call 39; refine (HN _).out.mono ?_; rintro e w' ⟨rfl, rfl⟩))
      go_ret
      exact ⟨rfl, rfl⟩
/-- What the name of an owner comes to in USTAR and in GNU. -/
noncomputable def ownerV (s : ByteArray) (f : Int) : Int := if f = 3 ∧ 32 < s.size then 2 else if s.size = 32 then allV [textV s 32 f, 0] else textV s 32 f
theorem two_nums (w : World) (T : TypeId) (x y : Int) : RC (w.alloc (.cells #[.int .i64 x, .int .i64 y] T)) (w.heap.size + 1) (some ⟨w.heap.size, 0, none⟩) (nums [x, y]) := RC.of_blk (Blk.new w T (nums [x, y]))
set_option maxRecDepth 20000 in
set_option maxHeartbeats 1600000 in
theorem specOwner13 (s : ByteArray) (f : Int) (w : World) (hs : s.size ≤ 4611686018427387904) (hf : f = 1 ∨ f = 3) :
    Calls Tryz.prog 24 #[.string s, .int .i64 f] w fun e w' => e = .returned (.int .i64 (ownerV s f)) ∧ Below w.heap.size w w' := by
  have HT := fun w => Lib.hid (specText13 s 32 f w hs hf)
  obtain ⟨V, hV⟩ : ∃ V, ownerV s f = V := ⟨_, rfl⟩
  rw [hV]
  unfold ownerV at hV
  obtain ⟨t, ht⟩ : ∃ t, textV s 32 f = t := ⟨_, rfl⟩
  rw [ht] at HT hV
  have hAll : ∀ (w : World) (T : TypeId), Calls Tryz.prog 23 #[.slice (some ⟨w.heap.size, 0, none⟩) 2 2] (w.alloc (.cells #[.int .i64 t, .int .i64 0] T)) fun e w' => e = .returned (.int .i64 (allV [t, 0])) ∧ w.alloc (.cells #[.int .i64 t, .int .i64 0] T) = w' := fun w T => specAll _ 2 2 _ [t, 0] _ rfl (two_nums w T t 0) (by omega)
  have HALL := fun w T => Lib.hid (hAll w T)
  clear ht hAll
  by_cases h32 : s.size = 32
  · have e1 : ((s.size : Int) == 32) = true := by rw [beq_iff_eq]; omega
    have e1' : (s.size == 32) = true := by rw [beq_iff_eq]; omega
    have e2 : ¬ (32 : Int) < (s.size : Int) := by omega
    have e3 : (s.size : Int) = 32 := by omega
    rw [if_neg (by omega), if_pos h32] at hV
    clear h32
    rcases hf with rfl | rfl
    · skip
      go_enter Tryz.func24, Tryz.ntmps24
      go_wp2_with (first
        | (go_at_call 20; refine (HT _).out.mono ?_; rintro e w' ⟨rfl, rfl⟩)
        | (go_at_call 23; refine (HALL _ _).out.mono ?_; rintro e w' ⟨rfl, rfl⟩))
      go_ret
      exact ⟨by rw [← hV]; rfl, (Below.refl _ _).alloc (Nat.le_refl _) _⟩
    · skip
      go_enter Tryz.func24, Tryz.ntmps24
      go_wp2_with (first
        | (go_at_call 20; refine (HT _).out.mono ?_; rintro e w' ⟨rfl, rfl⟩)
        | (go_at_call 23; refine (HALL _ _).out.mono ?_; rintro e w' ⟨rfl, rfl⟩))
      go_ret
      exact ⟨by rw [← hV]; rfl, (Below.refl _ _).alloc (Nat.le_refl _) _⟩
  · have e1 : ((s.size : Int) == 32) = false := by rw [beq_eq_false_iff_ne]; omega
    have e1' : (s.size == 32) = false := by rw [beq_eq_false_iff_ne]; omega
    have e3 : ¬ (s.size : Int) = 32 := by omega
    rw [if_neg h32] at hV
    by_cases hg : 32 < s.size
    · have e2 : (32 : Int) < (s.size : Int) := by omega
      rcases hf with rfl | rfl
      · rw [if_neg (by omega)] at hV
        subst hV
        go_enter Tryz.func24, Tryz.ntmps24
        go_wp2_with (first
          | (go_at_call 20; refine (HT _).out.mono ?_; rintro e w' ⟨rfl, rfl⟩))
        go_ret
        exact ⟨rfl, Below.refl _ _⟩
      · rw [if_pos ⟨rfl, hg⟩] at hV
        subst hV
        go_enter Tryz.func24, Tryz.ntmps24
        go_wp2_with (first
          | (go_at_call 20; refine (HT _).out.mono ?_; rintro e w' ⟨rfl, rfl⟩))
        go_ret
        exact ⟨rfl, Below.refl _ _⟩
    · have e2 : ¬ (32 : Int) < (s.size : Int) := by omega
      rw [if_neg (by omega)] at hV
      subst hV
      rcases hf with rfl | rfl
      · skip
        go_enter Tryz.func24, Tryz.ntmps24
        go_wp2_with (first
          | (go_at_call 20; refine (HT _).out.mono ?_; rintro e w' ⟨rfl, rfl⟩))
        go_ret
        exact ⟨rfl, Below.refl _ _⟩
      · skip
        go_enter Tryz.func24, Tryz.ntmps24
        go_wp2_with (first
          | (go_at_call 20; refine (HT _).out.mono ?_; rintro e w' ⟨rfl, rfl⟩))
        go_ret
        exact ⟨rfl, Below.refl _ _⟩
/-- What a time comes to. -/
def momentV (s n f : Int) : Int := if 100000000000000000 < s ∨ s < -100000000000000000 then 0 else if f ≠ 2 ∧ n ≠ 0 then 0 else 1
set_option maxRecDepth 20000 in
set_option maxHeartbeats 1600000 in
theorem specMoment (s n f : Int) (w : World) :
    Calls Tryz.prog 27 #[.agg #[.int .i64 s, .int .i64 n], .int .i64 f] w fun e w' => e = .returned (.int .i64 (momentV s n f)) ∧ Below w.heap.size w w' := by
  obtain ⟨V, hV⟩ : ∃ V, momentV s n f = V := ⟨_, rfl⟩
  rw [hV]
  unfold momentV at hV
  have HB : ∀ T, Hid (Below w.heap.size w (w.alloc (.cells #[.int .i64 s, .int .i64 n] T))) := fun T => Lib.hid ((Below.refl _ _).alloc (Nat.le_refl _) _)
  by_cases h1 : 100000000000000000 < s
  · rw [if_pos (.inl h1)] at hV
    subst hV
    go_enter Tryz.func27, Tryz.ntmps27
    go_wp2
    go_ret
    exact ⟨rfl, (HB _).out⟩
  by_cases h2 : s < -100000000000000000
  · rw [if_pos (.inr h2)] at hV
    subst hV
    go_enter Tryz.func27, Tryz.ntmps27
    go_wp2
    go_ret
    exact ⟨rfl, (HB _).out⟩
  rw [if_neg (by omega)] at hV
  by_cases h3 : f = 2
  · subst h3
    rw [if_neg (by omega)] at hV
    subst hV
    go_enter Tryz.func27, Tryz.ntmps27
    go_wp2
    go_ret
    exact ⟨rfl, (HB _).out⟩
  have h3' : (f == 2) = false := by simpa using h3
  have h3b : (f != 2) = true := by unfold bne; rw [h3']; rfl
  by_cases h4 : n = 0
  · subst h4
    rw [if_neg (by omega)] at hV
    subst hV
    go_enter Tryz.func27, Tryz.ntmps27
    go_wp2
    go_ret
    exact ⟨rfl, (HB _).out⟩
  · have h4' : (n == 0) = false := by simpa using h4
    have h4b : (n != 0) = true := by unfold bne; rw [h4']; rfl
    rw [if_pos ⟨h3, h4⟩] at hV
    subst hV
    go_enter Tryz.func27, Tryz.ntmps27
    go_wp2
    go_ret
    exact ⟨rfl, (HB _).out⟩
/-- Times that stand for none, and such as are none. -/
def oddB (s n : Int) : Bool := (decide (s = -62135596800) && decide (n = 0)) || decide (n < 0) || decide (999999999 < n)
set_option maxRecDepth 20000 in
set_option maxHeartbeats 1600000 in
theorem specOdd (s n : Int) (w : World) :
    Calls Tryz.prog 38 #[.agg #[.int .i64 s, .int .i64 n]] w fun e w' => e = .returned (.bool (oddB s n)) ∧ Below w.heap.size w w' := by
  obtain ⟨V, hV⟩ : ∃ V, oddB s n = V := ⟨_, rfl⟩
  rw [hV]
  unfold oddB at hV
  have HB : ∀ T, Hid (Below w.heap.size w (w.alloc (.cells #[.int .i64 s, .int .i64 n] T))) := fun T => Lib.hid ((Below.refl _ _).alloc (Nat.le_refl _) _)
  by_cases h1 : s = -62135596800
  · subst h1
    by_cases h2 : n = 0
    · subst h2
      subst hV
      go_enter Tryz.func38, Tryz.ntmps38
      go_wp2
      go_ret
      exact ⟨rfl, (HB _).out⟩
    · have h2' : (n == 0) = false := by simpa using h2
      rw [decide_eq_false h2, Bool.and_false, Bool.false_or] at hV
      by_cases h3 : n < 0
      · rw [decide_eq_true h3] at hV
        subst hV
        go_enter Tryz.func38, Tryz.ntmps38
        go_wp2
        go_ret
        exact ⟨rfl, (HB _).out⟩
      · rw [decide_eq_false h3, Bool.false_or] at hV
        subst hV
        go_enter Tryz.func38, Tryz.ntmps38
        go_wp2
        go_ret
        exact ⟨rfl, (HB _).out⟩
  · have h1' : (s == -62135596800) = false := by simpa using h1
    rw [decide_eq_false h1, Bool.false_and, Bool.false_or] at hV
    by_cases h3 : n < 0
    · rw [decide_eq_true h3] at hV
      subst hV
      go_enter Tryz.func38, Tryz.ntmps38
      go_wp2
      go_ret
      exact ⟨rfl, (HB _).out⟩
    · rw [decide_eq_false h3, Bool.false_or] at hV
      subst hV
      go_enter Tryz.func38, Tryz.ntmps38
      go_wp2
      go_ret
      exact ⟨rfl, (HB _).out⟩
def hasD (t : Int) : Bool := decide (t < 49) || decide (54 < t)
set_option maxRecDepth 20000 in
set_option maxHeartbeats 800000 in
theorem specHasData (t : Int) (w : World) :
    Calls Tryz.prog 26 #[.int .u8 t] w fun e w' => e = .returned (.bool (hasD t)) ∧ w = w' := by
  obtain ⟨V, hV⟩ : ∃ V, hasD t = V := ⟨_, rfl⟩
  rw [hV]
  unfold hasD at hV
  by_cases h1 : t < 49
  · rw [decide_eq_true h1] at hV
    subst hV
    go_enter Tryz.func26, Tryz.ntmps26
    go_wp2
    go_ret
    exact ⟨rfl, rfl⟩
  · rw [decide_eq_false h1, Bool.false_or] at hV
    subst hV
    go_enter Tryz.func26, Tryz.ntmps26
    go_wp2
    go_ret
    exact ⟨rfl, rfl⟩
/-- Does it end with a slash? -/
def slB (s : ByteArray) : Bool := decide (s.size ≠ 0) && decide (bt s (s.size - 1) = 47)
set_option maxRecDepth 20000 in
set_option maxHeartbeats 800000 in
theorem specSlashed (s : ByteArray) (w : World) (hs : s.size ≤ 4611686018427387904) :
    Calls Tryz.prog 19 #[.string s] w fun e w' => e = .returned (.bool (slB s)) ∧ w = w' := by
  obtain ⟨V, hV⟩ : ∃ V, slB s = V := ⟨_, rfl⟩
  rw [hV]
  unfold slB at hV
  have hb := get_bt s
  by_cases h0 : s.size = 0
  · have e0 : s.toList = [] := by rw [Lib.toList_data]; exact List.eq_nil_of_length_eq_zero (by rw [← Lib.size_eq]; exact h0)
    have e1 : s.toList.isEmpty = true := by rw [e0]; rfl
    rw [decide_eq_false (by omega), Bool.false_and] at hV
    subst hV
    clear hb
    go_enter Tryz.func19, Tryz.ntmps19
    go_wp2
    go_ret
    exact ⟨rfl, rfl⟩
  · have e0 : ¬ s.toList = [] := by
      rw [Lib.toList_data]
      intro h
      have h2 := Lib.size_eq s
      rw [h] at h2
      exact h0 h2
    have e1 : s.toList.isEmpty = false := by
      cases hl : s.toList with
      | nil => exact absurd hl e0
      | cons a b => rfl
    obtain ⟨m, hm⟩ : ∃ m, s.size - 1 = m := ⟨_, rfl⟩
    have hm1 : m < s.size := by omega
    have hm2 : (0 : Int) ≤ (m : Int) := by omega
    have hm3 : (m : Int) < (s.size : Int) := by omega
    have u1 : IntKind.i64.wrap ((s.size : Int) - 1) = (m : Int) := by rw [IntWalk.i64_in _ (by omega)]; omega
    have hc := hb m hm1
    rw [decide_eq_true h0, Bool.true_and, hm] at hV
    clear hm h0
    by_cases h4 : bt s m = 47
    · rw [decide_eq_true h4] at hV
      subst hV
      have h4b : (bt s m == 47) = true := by simpa using h4
      go_enter Tryz.func19, Tryz.ntmps19
      go_wp2
      go_ret
      exact ⟨rfl, rfl⟩
    · rw [decide_eq_false h4] at hV
      subst hV
      have h4b : (bt s m == 47) = false := by simpa using h4
      go_enter Tryz.func19, Tryz.ntmps19
      go_wp2
      go_ret
      exact ⟨rfl, rfl⟩
end Go.Proofs.YtepeehjajhehfaaGreatDoor
namespace Go.Proofs.YtepeehjajhehfaaGreatDoor
open Go.RowKit Go.PlainAid
set_option linter.unusedVariables false

/-- The digits of a number. -/
def numL (n : Nat) : List UInt8 := if h : n < 10 then [UInt8.ofNat (48 + n)] else numL (n / 10) ++ [UInt8.ofNat (48 + n % 10)]
termination_by n
decreasing_by omega
def numB (n : Nat) : ByteArray := ⟨(numL n).toArray⟩
theorem numL_small {n : Nat} (h : n < 10) : numL n = [UInt8.ofNat (48 + n)] := by rw [numL, dif_pos h]
theorem numL_big {n : Nat} (h : ¬ n < 10) : numL n = numL (n / 10) ++ [UInt8.ofNat (48 + n % 10)] := by rw [numL, dif_neg h]
theorem digB_toNat {d : Nat} (h : d < 10) : (UInt8.ofNat (48 + d)).toNat = 48 + d := by
  rw [UInt8.toNat_ofNat']
  omega
theorem numL_ind {P : Nat → List UInt8 → Prop} (h1 : ∀ n, n < 10 → P n [UInt8.ofNat (48 + n)]) (h2 : ∀ n, ¬ n < 10 → P (n / 10) (numL (n / 10)) → P n (numL (n / 10) ++ [UInt8.ofNat (48 + n % 10)])) : ∀ n, P n (numL n) := by
  intro n
  induction n using Nat.strongRecOn with
  | _ n ih =>
    by_cases h : n < 10
    · rw [numL_small h]; exact h1 n h
    · rw [numL_big h]; exact h2 n h (ih (n / 10) (by omega))
theorem numL_dig (n : Nat) : allDig (numL n) := by
  refine numL_ind (P := fun _ l => allDig l) ?_ ?_ n
  · intro n h c hc
    rw [List.mem_singleton.1 hc]
    unfold dig
    rw [digB_toNat h]
    omega
  · intro n h ih c hc
    rcases List.mem_append.1 hc with hc | hc
    · exact ih c hc
    · rw [List.mem_singleton.1 hc]
      unfold dig
      rw [digB_toNat (by omega)]
      omega
theorem numL_vl (n : Nat) : vl 0 (numL n) = n := by
  refine numL_ind (P := fun n l => vl 0 l = n) ?_ ?_ n
  · intro n h
    rw [vl_cons, digB_toNat h]
    simp [vl]
  · intro n h ih
    rw [vl_snoc, ih, digB_toNat (by omega)]
    omega
theorem numL_pos (n : Nat) : 0 < (numL n).length := by
  refine numL_ind (P := fun _ l => 0 < l.length) ?_ ?_ n
  · intro n h; simp
  · intro n h ih; simp
theorem numL_lt (n : Nat) : n < 10 ^ (numL n).length := by
  refine numL_ind (P := fun n l => n < 10 ^ l.length) ?_ ?_ n
  · intro n h; simpa using h
  · intro n h ih
    rw [List.length_append, List.length_singleton, Nat.pow_succ]
    omega
theorem numL_ge (n : Nat) (h : 10 ≤ n) : 10 ^ ((numL n).length - 1) ≤ n := by
  revert h
  refine numL_ind (P := fun n l => 10 ≤ n → 10 ^ (l.length - 1) ≤ n) ?_ ?_ n
  · intro n h h2; omega
  · intro n h ih h2
    rw [List.length_append, List.length_singleton, Nat.add_sub_cancel]
    by_cases h3 : 10 ≤ n / 10
    · have h4 := ih h3
      obtain ⟨k, hk⟩ : ∃ k, (numL (n / 10)).length = k + 1 := ⟨(numL (n / 10)).length - 1, by have := numL_pos (n / 10); omega⟩
      rw [hk, Nat.add_sub_cancel] at h4
      rw [hk, Nat.pow_succ]
      omega
    · rw [numL_small (by omega)]
      simp
      omega
/-- The count of digits is told by the bounds. -/
theorem numL_len {n k : Nat} (h1 : 10 ^ k ≤ n) (h2 : n < 10 ^ (k + 1)) : (numL n).length = k + 1 := by
  have p := numL_pos n
  have l := numL_lt n
  have a : k < (numL n).length := by
    rcases Nat.lt_or_ge k (numL n).length with h | h
    · exact h
    · have := Nat.pow_le_pow_right (n := 10) (by omega) h
      omega
  by_cases h10 : 10 ≤ n
  · have g := numL_ge n h10
    rcases Nat.lt_or_ge ((numL n).length - 1) (k + 1) with h | h
    · omega
    · have := Nat.pow_le_pow_right (n := 10) (by omega) h
      omega
  · have e : (numL n).length = 1 := by rw [numL_small (by omega)]; rfl
    omega
end Go.Proofs.YtepeehjajhehfaaGreatDoor
namespace Go.Proofs.YtepeehjajhehfaaGreatDoor
open Go.RowKit Go.PlainAid
set_option linter.unusedVariables false

theorem numL_le19 {n : Nat} (hn : n ≤ 9223372036854775807) : (numL n).length ≤ 19 := by
  by_cases h : 10 ≤ n
  · have g := numL_ge n h
    rcases Nat.lt_or_ge 19 (numL n).length with h2 | h2
    · have := Nat.pow_le_pow_right (n := 10) (by omega) (show 19 ≤ (numL n).length - 1 by omega)
      have e : (10 : Nat) ^ 19 = 10000000000000000000 := by decide
      omega
    · exact h2
  · rw [numL_small (by omega)]; simp
theorem ba_ext {a b : ByteArray} (h : a.data.toList = b.data.toList) : a = b := by
  cases a; cases b
  simp at h
  rw [h]
end Go.Proofs.YtepeehjajhehfaaGreatDoor
namespace Go.Proofs.YtepeehjajhehfaaGreatDoor
open Go.RowKit

/-- The cells of a list of pieces. -/
def pcs : List (Int × Int) → List Value
  | [] => []
  | p :: ps => .int .i64 p.1 :: .int .i64 p.2 :: pcs ps
theorem length_pcs : ∀ ps : List (Int × Int), (pcs ps).length = ps.length * 2
  | [] => rfl
  | p :: ps => by simp [pcs, length_pcs ps]; omega
/-- Offset and length of piece k. -/
def po (ps : List (Int × Int)) (k : Nat) : Int := (ps.getD k (0, 0)).1
def pl (ps : List (Int × Int)) (k : Nat) : Int := (ps.getD k (0, 0)).2
theorem pcs_get1 : ∀ (ps : List (Int × Int)) (k : Nat), k < ps.length → (pcs ps)[k * 2]? = some (.int .i64 (po ps k))
  | p :: ps, 0, _ => rfl
  | p :: ps, k + 1, h => by
    rw [show (k + 1) * 2 = k * 2 + 1 + 1 from by omega]
    simp only [pcs, List.getElem?_cons_succ]
    rw [pcs_get1 ps k (by simpa using h)]
    rfl
theorem pcs_get2 : ∀ (ps : List (Int × Int)) (k : Nat), k < ps.length → (pcs ps)[k * 2 + 1]? = some (.int .i64 (pl ps k))
  | p :: ps, 0, _ => rfl
  | p :: ps, k + 1, h => by
    rw [show (k + 1) * 2 + 1 = k * 2 + 1 + 1 + 1 from by omega]
    simp only [pcs, List.getElem?_cons_succ]
    rw [pcs_get2 ps k (by simpa using h)]
    rfl
theorem rc_new2 (w : World) (o : Obj) (xs : List Value) (t : TypeId) : RC ((w.alloc o).alloc (.cells xs.toArray t)) (w.heap.size + 2) (some ⟨w.heap.size + 1, 0, none⟩) xs := by
  have h := RC.of_blk (Blk.new (w.alloc o) t xs)
  simpa using h
/-- All numbers are those of int64. -/
def Fit (ps : List (Int × Int)) : Prop := ∀ p ∈ ps, -9223372036854775808 ≤ p.1 ∧ p.1 ≤ 9223372036854775807 ∧ -9223372036854775808 ≤ p.2 ∧ p.2 ≤ 9223372036854775807
theorem Fit.at_ {ps : List (Int × Int)} (h : Fit ps) (k : Nat) : -9223372036854775808 ≤ po ps k ∧ po ps k ≤ 9223372036854775807 ∧ -9223372036854775808 ≤ pl ps k ∧ pl ps k ≤ 9223372036854775807 := by
  by_cases hk : k < ps.length
  · have := h ps[k] (List.getElem_mem hk)
    simpa [po, pl, List.getD, hk] using this
  · simp [po, pl, List.getD, hk]

/-- The two cells of piece k. -/
theorem RC.piece {w : World} {B : Nat} {A : Option Addr} {ps : List (Int × Int)} (h : RC w B A (pcs ps)) {k : Nat} (hk : k < ps.length) :
    ∃ b off, A = some ⟨b, off, none⟩ ∧ b < B ∧ w.cell? ⟨b, off + k * 2, none⟩ = some (.int .i64 (po ps k)) ∧ w.cell? ⟨b, off + k * 2 + 1, none⟩ = some (.int .i64 (pl ps k)) := by
  obtain ⟨b, off, hA, hb, hc⟩ := h (by rw [length_pcs]; omega)
  exact ⟨b, off, hA, hb, hc _ _ (pcs_get1 ps k hk), by rw [Nat.add_assoc]; exact hc _ _ (pcs_get2 ps k hk)⟩

end Go.Proofs.YtepeehjajhehfaaGreatDoor
namespace Go.Proofs.YtepeehjajhehfaaGreatDoor
open Go.RowKit Go.PlainAid
set_option linter.unusedVariables false

end Go.Proofs.YtepeehjajhehfaaGreatDoor
namespace Go.Proofs.YtepeehjajhehfaaGreatDoor
open Go.RowKit Go.PlainAid
set_option linter.unusedVariables false

/-- What stands behind the number. -/
def recR (k v : ByteArray) : ByteArray := ⟨#[32]⟩ ++ k ++ ⟨#[61]⟩ ++ v ++ ⟨#[10]⟩
theorem numB_size (n : Nat) : (numB n).size = (numL n).length := by
  rw [Lib.size_eq]; rfl
end Go.Proofs.YtepeehjajhehfaaGreatDoor
namespace Go.Proofs.YtepeehjajhehfaaGreatDoor
open Go.RowKit Go.PlainAid
set_option linter.unusedVariables false

/-- Small pieces. -/
def SmallP (ps : List (Int × Int)) : Prop := ps.length ≤ 100 ∧ ∀ k, k < ps.length → 0 ≤ po ps k ∧ po ps k ≤ 1000000 ∧ 0 ≤ pl ps k ∧ pl ps k ≤ 1000000
theorem SmallP.take {ps : List (Int × Int)} (h : SmallP ps) (k : Nat) : SmallP (ps.take k) := by
  refine ⟨by rw [List.length_take]; have := h.1; omega, fun j hj => ?_⟩
  rw [List.length_take] at hj
  have := h.2 j (by omega)
  simpa [po, pl, List.getD, show j < k by omega] using this
/-- A row of records. -/
def recsV : List (ByteArray × ByteArray) → List Value
  | [] => []
  | p :: r => .string p.1 :: .string p.2 :: recsV r
theorem length_recsV : ∀ rs : List (ByteArray × ByteArray), (recsV rs).length = rs.length * 2
  | [] => rfl
  | p :: r => by simp [recsV, length_recsV r]; omega
end Go.Proofs.YtepeehjajhehfaaGreatDoor
namespace Go.Proofs.YtepeehjajhehfaaGreatDoor
open Go.RowKit Go.PlainAid
set_option linter.unusedVariables false

def rk (rs : List (ByteArray × ByteArray)) (k : Nat) : ByteArray := (rs.getD k (⟨#[]⟩, ⟨#[]⟩)).1
def rv (rs : List (ByteArray × ByteArray)) (k : Nat) : ByteArray := (rs.getD k (⟨#[]⟩, ⟨#[]⟩)).2
theorem recsV_append : ∀ a b : List (ByteArray × ByteArray), recsV (a ++ b) = recsV a ++ recsV b
  | [], b => rfl
  | p :: a, b => by simp [recsV, recsV_append a b]
theorem recsV_get1 : ∀ (rs : List (ByteArray × ByteArray)) (k : Nat), k < rs.length → (recsV rs)[k * 2]? = some (.string (rk rs k))
  | p :: ps, 0, _ => rfl
  | p :: ps, k + 1, h => by
    rw [show (k + 1) * 2 = k * 2 + 1 + 1 from by omega]
    simp only [recsV, List.getElem?_cons_succ]
    rw [recsV_get1 ps k (by simpa using h)]
    rfl
theorem recsV_get2 : ∀ (rs : List (ByteArray × ByteArray)) (k : Nat), k < rs.length → (recsV rs)[k * 2 + 1]? = some (.string (rv rs k))
  | p :: ps, 0, _ => rfl
  | p :: ps, k + 1, h => by
    rw [show (k + 1) * 2 + 1 = k * 2 + 1 + 1 + 1 from by omega]
    simp only [recsV, List.getElem?_cons_succ]
    rw [recsV_get2 ps k (by simpa using h)]
    rfl
theorem take_rec (rs : List (ByteArray × ByteArray)) (k : Nat) (h : k < rs.length) : rs.take (k + 1) = rs.take k ++ [(rk rs k, rv rs k)] := by
  rw [List.take_succ_eq_append_getElem h]
  have : (rk rs k, rv rs k) = rs[k] := by simp [rk, rv, List.getD, h]
  rw [this]
theorem recsV_take (rs : List (ByteArray × ByteArray)) (k : Nat) (h : k < rs.length) : recsV (rs.take (k + 1)) = recsV (rs.take k) ++ [.string (rk rs k), .string (rv rs k)] := by
  rw [take_rec rs k h, recsV_append]
  rfl
theorem two_strs (a b : ByteArray) : ∀ u ∈ [Value.string a, Value.string b], u.oneCell' = true := by
  intro u hu
  simp only [List.mem_cons, List.not_mem_nil, or_false] at hu
  rcases hu with rfl | rfl <;> rfl
/-- The two cells of record k. -/
theorem RC.rec_ {w : World} {B : Nat} {A : Option Addr} {rs : List (ByteArray × ByteArray)} (h : RC w B A (recsV rs)) {k : Nat} (hk : k < rs.length) :
    ∃ b off, A = some ⟨b, off, none⟩ ∧ b < B ∧ w.cell? ⟨b, off + k * 2, none⟩ = some (.string (rk rs k)) ∧ w.cell? ⟨b, off + k * 2 + 1, none⟩ = some (.string (rv rs k)) := by
  obtain ⟨b, off, hA, hb, hc⟩ := h (by rw [length_recsV]; omega)
  exact ⟨b, off, hA, hb, hc _ _ (recsV_get1 rs k hk), by rw [Nat.add_assoc]; exact hc _ _ (recsV_get2 rs k hk)⟩
/-- A list of records in memory of the call's own. -/
def MadeR (E : TypeId) (n : Nat) (rs : List (ByteArray × ByteArray)) (w : World) (en : Ending) (w' : World) : Prop :=
  ∃ v, en = .returned v ∧ w'.ownsRow w.heap.size E 2 v n (recsV rs) ∧ Below w.heap.size w w'
end Go.Proofs.YtepeehjajhehfaaGreatDoor
namespace Go.Proofs.YtepeehjajhehfaaGreatDoor
open Go.RowKit Go.PlainAid
set_option linter.unusedVariables false

/-- Not strange: its format, its times. -/
def NotStrange (h : Hd) : Prop := 0 ≤ h.fm ∧ h.fm ≤ 3 ∧ oddB h.ms h.mn = false ∧ (h.ha = true → oddB h.as_ h.an = false) ∧ (h.hc = true → oddB h.cs h.cn = false)
def StrangeP (h : Hd) (w : World) (e : Ending) (w' : World) : Prop := ∃ b : Bool, e = .returned (.bool b) ∧ (b = false → NotStrange h) ∧ Below w.heap.size w w'
/-- The records of a header lie in memory. -/
structure Hd.Recs (h : Hd) (B : Nat) (rs : List (ByteArray × ByteArray)) (w : World) : Prop where
  len : rs.length = h.rn
  row : RC w B h.rA (recsV rs)
  big : h.rn ≤ 2147483647
  small : ∀ k, (rk rs k).size ≤ 2147483647 ∧ (rv rs k).size ≤ 2147483647
theorem Hd.Recs.below {h : Hd} {B C : Nat} {rs : List (ByteArray × ByteArray)} {w w' : World} (r : h.Recs B rs w) (hb : Below C w w') (hB : B ≤ C) : h.Recs B rs w' := ⟨r.len, r.row.below (hb.mono hB), r.big, r.small⟩
set_option maxRecDepth 20000 in
set_option maxHeartbeats 3200000 in
theorem specStrange (h : Hd) (B : Nat) (rs : List (ByteArray × ByteArray)) (w : World) (hr : h.Recs B rs w) (hB : B ≤ w.heap.size) :
    Calls Tryz.prog 17 #[h.val] w (StrangeP h w) := by
  have HR := Lib.hid hr
  have HB0 : Hid (Blk (w.alloc (.cells h.arr 32)) w.heap.size 32 h.cells) := Lib.hid (h.blk w _)
  have HW0 : Hid (Below w.heap.size w (w.alloc (.cells h.arr 32))) := Lib.hid ((Below.refl _ _).alloc (Nat.le_refl _) _)
  unfold Hd.val
  clear hr
  go_enter Tryz.func17, Tryz.ntmps17
  go_upto_region 1 with fail
  generalize w.alloc (.cells h.arr 32) = w1 at HB0 HW0 ⊢
  obtain ⟨H, hH⟩ : ∃ H, w.heap.size = H := ⟨_, rfl⟩
  rw [hH] at HB0 HW0 hB
  rw [hH]
  have HH := Lib.hid hH
  clear hH
  obtain ⟨rA, hrA⟩ : ∃ x, h.rA = x := ⟨_, rfl⟩
  obtain ⟨rn, hrn⟩ : ∃ x, h.rn = x := ⟨_, rfl⟩
  have HRA := Lib.hid hrA
  have HRN := Lib.hid hrn
  have c1 := HB0.out.cell 1
  have c2 := HB0.out.cell 2
  have c7 := HB0.out.cell 7
  have c8 := HB0.out.cell 8
  have c19 : w1.cell? ⟨H, 19, none⟩ = some (.slice rA rn h.rc) := by rw [← hrA, ← hrn]; exact HB0.out.cell 19
  have d1 : w1.cell? ⟨H, 1, none⟩ = some (.string h.name) := c1
  have d2 : w1.cell? ⟨H, 2, none⟩ = some (.string h.link) := c2
  have d7 : w1.cell? ⟨H, 7, none⟩ = some (.string h.un) := c7
  have d8 : w1.cell? ⟨H, 8, none⟩ = some (.string h.gn) := c8
  have hbig : rn ≤ 2147483647 := by rw [← hrn]; exact HR.out.big
  clear c1 c2 c7 c8 hrA hrn
  go_wp2
  go_loopw [3, 24] (fun v i wr => ∃ (k : Nat) (y : Int), k ≤ rn ∧ i = .int .i64 k ∧ v = .int .i64 y ∧ Hid (Below w1.heap.size w1 wr)) (fun _ i _ => rn - (intOf i).toNat)
  case atStart => exact ⟨0, _, by omega, rfl, rfl, Lib.hid (Below.refl _ _)⟩
  case round =>
    obtain ⟨k, y, hk, rfl, rfl, HW⟩ := hrel
    clear c19 d1 d2 d7 d8
    by_cases hlt : k < rn
    · obtain ⟨b, off, hA, hbB, q1, q2⟩ := ((HR.out.below HW0.out hB).below HW.out (by have := HW0.out.size; have := HH.out; omega)).row.rec_ (k := k) (by rw [HR.out.len, HRN.out]; exact hlt)
      rw [HRA.out] at hA
      subst hA
      have hk0 : (0 : Int) ≤ (k : Int) := by omega
      have hk1 : (k : Int) < (rn : Int) := by omega
      obtain ⟨X, hX⟩ : ∃ X, rk rs k = X := ⟨_, rfl⟩
      obtain ⟨Y, hY⟩ : ∃ Y, rv rs k = Y := ⟨_, rfl⟩
      rw [hX] at q1
      rw [hY] at q2
      clear hX hY
      have HW2 : Hid (Below w1.heap.size w1 (wr.alloc (.cells #[.string X, .string Y] 60))) := Lib.hid (HW.out.alloc HW.out.size _)
      go_wp2
      go_roundw
      case rel => exact ⟨k + 1, _, by omega, by go_num, rfl, HW2⟩
      case measure => simp [intOf]; omega
    · obtain rfl : k = rn := by omega
      have HBH : Hid (Blk wr H 32 h.cells) := Lib.hid (HB0.out.below HW.out HB0.out.lt)
      have HWF : Hid (Below w.heap.size w wr) := Lib.hid (by rw [HH.out]; exact HW0.out.trans (HW.out.mono (by have := HW0.out.size; have := HH.out; omega)))
      have d20 : wr.cell? ⟨H, 20, none⟩ = some (.int .i64 h.fm) := HBH.out.cell 20
      have d9 : wr.cell? ⟨H, 9, none⟩ = some (.int .i64 h.ms) := HBH.out.cell 9
      have d10 : wr.cell? ⟨H, 10, none⟩ = some (.int .i64 h.mn) := HBH.out.cell 10
      obtain ⟨F, hF⟩ : ∃ F, h.fm = F := ⟨_, rfl⟩
      obtain ⟨o1, ho1⟩ : ∃ b, oddB h.ms h.mn = b := ⟨_, rfl⟩
      obtain ⟨o2, ho2⟩ : ∃ b, oddB h.as_ h.an = b := ⟨_, rfl⟩
      obtain ⟨o3, ho3⟩ : ∃ b, oddB h.cs h.cn = b := ⟨_, rfl⟩
      obtain ⟨ha, hha⟩ : ∃ b, h.ha = b := ⟨_, rfl⟩
      obtain ⟨hc, hhc⟩ : ∃ b, h.hc = b := ⟨_, rfl⟩
      have HNS : Hid (NotStrange h = (0 ≤ F ∧ F ≤ 3 ∧ o1 = false ∧ (ha = true → o2 = false) ∧ (hc = true → o3 = false))) := Lib.hid (by unfold NotStrange; rw [hF, ho1, ho2, ho3, hha, hhc])
      have HO1 := fun w => Lib.hid (specOdd h.ms h.mn w)
      have HO2 := fun w => Lib.hid (specOdd h.as_ h.an w)
      have HO3 := fun w => Lib.hid (specOdd h.cs h.cn w)
      rw [ho1] at HO1
      rw [ho2] at HO2
      rw [ho3] at HO3
      rw [hF] at d20
      clear hF ho1 ho2 ho3
      by_cases x1 : 524288 < y
      · go_wp2
        go_ret
        exact ⟨true, rfl, (fun e => by cases e), HWF.out⟩
      by_cases x2 : F < 0
      · go_wp2
        go_ret
        exact ⟨true, rfl, (fun e => by cases e), HWF.out⟩
      by_cases x3 : 3 < F
      · go_wp2
        go_ret
        exact ⟨true, rfl, (fun e => by cases e), HWF.out⟩
      go_wp2_with fail
      refine (HO1 _).out.mono ?_
      rintro e w2 ⟨rfl, hb2⟩
      have HBH2 : Hid (Blk w2 H 32 h.cells) := Lib.hid (HBH.out.below hb2 HBH.out.lt)
      have HW2 : Hid (Below w.heap.size w w2) := Lib.hid (HWF.out.trans (hb2.mono HWF.out.size))
      clear hb2 d20 d9 d10
      cases o1 with
      | true =>
        go_wp2
        go_ret
        exact ⟨true, rfl, (fun e => by cases e), HW2.out⟩
      | false =>
        cases ha with
        | false =>
          have g2a : w2.cell? ⟨H, 11, none⟩ = some (.bool false) := by rw [← hha]; exact HBH2.out.cell 11
          cases hc with
          | false =>
            have g2c : w2.cell? ⟨H, 12, none⟩ = some (.bool false) := by rw [← hhc]; exact HBH2.out.cell 12
            go_wp2
            go_ret
            exact ⟨false, rfl, (fun _ => by rw [HNS.out]; exact ⟨by omega, by omega, by simp, by simp, by simp⟩), HW2.out⟩
          | true =>
            have g2c : w2.cell? ⟨H, 12, none⟩ = some (.bool true) := by rw [← hhc]; exact HBH2.out.cell 12
            have g2_15 : w2.cell? ⟨H, 15, none⟩ = some (.int .i64 h.cs) := HBH2.out.cell 15
            have g2_16 : w2.cell? ⟨H, 16, none⟩ = some (.int .i64 h.cn) := HBH2.out.cell 16
            go_wp2_with fail
            refine (HO3 _).out.mono ?_
            rintro e w9 ⟨rfl, hb9⟩
            have HW9 : Hid (Below w.heap.size w w9) := Lib.hid (HW2.out.trans (hb9.mono HW2.out.size))
            clear hb9
            go_wp2
            go_ret
            exact ⟨o3, rfl, (fun e3 => by rw [HNS.out]; exact ⟨by omega, by omega, by simp, by simp, by first | exact e3 | exact fun _ => e3⟩), HW9.out⟩
        | true =>
          have g2a : w2.cell? ⟨H, 11, none⟩ = some (.bool true) := by rw [← hha]; exact HBH2.out.cell 11
          have g2_13 : w2.cell? ⟨H, 13, none⟩ = some (.int .i64 h.as_) := HBH2.out.cell 13
          have g2_14 : w2.cell? ⟨H, 14, none⟩ = some (.int .i64 h.an) := HBH2.out.cell 14
          go_wp2_with fail
          refine (HO2 _).out.mono ?_
          rintro e w3 ⟨rfl, hb3⟩
          have HBH3 : Hid (Blk w3 H 32 h.cells) := Lib.hid (HBH2.out.below hb3 HBH2.out.lt)
          have HW3 : Hid (Below w.heap.size w w3) := Lib.hid (HW2.out.trans (hb3.mono HW2.out.size))
          clear hb3 g2a g2_13 g2_14
          cases o2 with
          | true =>
            go_wp2
            go_ret
            exact ⟨true, rfl, (fun e => by cases e), HW3.out⟩
          | false =>
            cases hc with
            | false =>
              have g3c : w3.cell? ⟨H, 12, none⟩ = some (.bool false) := by rw [← hhc]; exact HBH3.out.cell 12
              go_wp2
              go_ret
              exact ⟨false, rfl, (fun _ => by rw [HNS.out]; exact ⟨by omega, by omega, by simp, by simp, by simp⟩), HW3.out⟩
            | true =>
              have g3c : w3.cell? ⟨H, 12, none⟩ = some (.bool true) := by rw [← hhc]; exact HBH3.out.cell 12
              have g3_15 : w3.cell? ⟨H, 15, none⟩ = some (.int .i64 h.cs) := HBH3.out.cell 15
              have g3_16 : w3.cell? ⟨H, 16, none⟩ = some (.int .i64 h.cn) := HBH3.out.cell 16
              go_wp2_with fail
              refine (HO3 _).out.mono ?_
              rintro e w9 ⟨rfl, hb9⟩
              have HW9 : Hid (Below w.heap.size w w9) := Lib.hid (HW3.out.trans (hb9.mono HW3.out.size))
              clear hb9
              go_wp2
              go_ret
              exact ⟨o3, rfl, (fun e3 => by rw [HNS.out]; exact ⟨by omega, by omega, by simp, by simp, by first | exact e3 | exact fun _ => e3⟩), HW9.out⟩

/-- A header with its type told. -/
def Hd.prom (h : Hd) : Hd := { h with ty := if h.ty = 0 then (if slB h.name = true then 53 else 48) else h.ty }
end Go.Proofs.YtepeehjajhehfaaGreatDoor
namespace Go.Proofs.YtepeehjajhehfaaGreatDoor
open Go.RowKit

/-! ### The string of a field -/
end Go.Proofs.YtepeehjajhehfaaGreatDoor
namespace Go.Proofs.YtepeehjajhehfaaGreatDoor
open Go.RowKit Go.PlainAid
set_option linter.unusedVariables false

section
variable {P : Program}
theorem setRow_blk (w : World) (g : Nat) (t : TypeId) (cur ys : List Value) (hg : Blk w g t cur) : Blk (w.setRow g ys.toArray) g t ys := setRow_heap w g _ _ t _ hg
theorem setRow_grown (w : World) (g : Nat) (ys : Array Value) : w.grownBy (w.setRow g ys) (some g) := ⟨rfl, rfl, rfl, by simp [World.setRow], fun k hk hne => setRow_other w g k _ (fun e => hne (by rw [e]))⟩
theorem setRow_size (w : World) (g : Nat) (ys : Array Value) : (w.setRow g ys).heap.size = w.heap.size := by simp [World.setRow]

end
end Go.Proofs.YtepeehjajhehfaaGreatDoor
namespace Go.Proofs.YtepeehjajhehfaaGreatDoor
open Go.RowKit Go.PlainAid
set_option linter.unusedVariables false

theorem prom_no {h : Hd} (h0 : ¬ h.ty = 0) : h.prom = h := by
  unfold Hd.prom
  rw [if_neg h0]
theorem prom_sl {h : Hd} (h0 : h.ty = 0) (hs : slB h.name = true) : h.prom.cells = h.cells.set 0 (.int .u8 53) := by unfold Hd.prom Hd.cells; rw [if_pos h0, if_pos hs]; rfl
theorem prom_ns {h : Hd} (h0 : h.ty = 0) (hs : slB h.name = false) : h.prom.cells = h.cells.set 0 (.int .u8 48) := by unfold Hd.prom Hd.cells; rw [if_pos h0, if_neg (by rw [hs]; decide)]; rfl
theorem Hd.one_ (h : Hd) : h.arr.all (·.oneCell') = true := by simp [Hd.arr, Hd.cells, Value.oneCell']
def hd0 : Hd := ⟨0, ⟨#[]⟩, ⟨#[]⟩, 0, 0, 0, 0, ⟨#[]⟩, ⟨#[]⟩, 0, 0, false, false, 0, 0, 0, 0, 0, 0, none, 0, 0, 0⟩
theorem second_blk' (w : World) (o : Obj) (T : TypeId) (xs : List Value) : Blk ((w.alloc o).alloc (.cells xs.toArray T)) (w.heap.size + 1) T xs := by
  have h := Blk.new (w.alloc o) T xs
  have e : (w.alloc o).heap.size = w.heap.size + 1 := by simp
  rwa [e] at h
theorem two_al' (w : World) (o1 o2 : Obj) : Below w.heap.size w ((w.alloc o1).alloc o2) := ((Below.refl _ w).alloc (Nat.le_refl _) _).alloc (by simp) _
set_option maxRecDepth 20000 in
set_option maxHeartbeats 1600000 in
theorem specProm (h : Hd) (w : World) (hs : h.name.size ≤ 4611686018427387904) :
    Calls Tryz.prog 18 #[h.val] w fun e w' => e = .returned h.prom.val ∧ Below w.heap.size w w' := by
  have HSL := fun w => Lib.hid (specSlashed h.name w hs)
  obtain ⟨s, hsl⟩ : ∃ s, slB h.name = s := ⟨_, rfl⟩
  rw [hsl] at HSL
  have HA0 : Hid (Blk ((w.alloc (.cells h.arr 32)).alloc (.cells #[.int .u8 0, .string { data := #[] }, .string { data := #[] }, .int .i64 0, .int .i64 0, .int .i64 0, .int .i64 0, .string { data := #[] }, .string { data := #[] }, .int .i64 0, .int .i64 0, .bool false, .bool false, .int .i64 0, .int .i64 0, .int .i64 0, .int .i64 0, .int .i64 0, .int .i64 0, .slice none 0 0, .int .i64 0] 32)) w.heap.size 32 h.cells) := Lib.hid ((h.blk w _).alloc _)
  have HR0 : Hid (Blk ((w.alloc (.cells h.arr 32)).alloc (.cells #[.int .u8 0, .string { data := #[] }, .string { data := #[] }, .int .i64 0, .int .i64 0, .int .i64 0, .int .i64 0, .string { data := #[] }, .string { data := #[] }, .int .i64 0, .int .i64 0, .bool false, .bool false, .int .i64 0, .int .i64 0, .int .i64 0, .int .i64 0, .int .i64 0, .int .i64 0, .slice none 0 0, .int .i64 0] 32)) (w.heap.size + 1) 32 hd0.cells) := Lib.hid (second_blk' w _ _ hd0.cells)
  have HW0 : Hid (Below w.heap.size w ((w.alloc (.cells h.arr 32)).alloc (.cells #[.int .u8 0, .string { data := #[] }, .string { data := #[] }, .int .i64 0, .int .i64 0, .int .i64 0, .int .i64 0, .string { data := #[] }, .string { data := #[] }, .int .i64 0, .int .i64 0, .bool false, .bool false, .int .i64 0, .int .i64 0, .int .i64 0, .int .i64 0, .int .i64 0, .int .i64 0, .slice none 0 0, .int .i64 0] 32))) := Lib.hid (two_al' w _ _)
  have HSS := Lib.hid hsl
  clear hsl
  by_cases h0 : h.ty = 0
  · have H0 := Lib.hid h0
    unfold Hd.val
    go_enter Tryz.func18, Tryz.ntmps18
    go_upto_region 1 with fail
    generalize (w.alloc (.cells h.arr 32)).alloc (.cells #[.int .u8 0, .string { data := #[] }, .string { data := #[] }, .int .i64 0, .int .i64 0, .int .i64 0, .int .i64 0, .string { data := #[] }, .string { data := #[] }, .int .i64 0, .int .i64 0, .bool false, .bool false, .int .i64 0, .int .i64 0, .int .i64 0, .int .i64 0, .int .i64 0, .int .i64 0, .slice none 0 0, .int .i64 0] 32) = w1 at HA0 HR0 HW0 ⊢
    have k0 : w1.cell? ⟨w.heap.size, 0, none⟩ = some (.int .u8 0) := by rw [← h0]; exact HA0.out.cell 0
    have k1 : w1.cell? ⟨w.heap.size, 1, none⟩ = some (.string h.name) := HA0.out.cell 1
    have f0 := HA0.out.frozen 0
    have HRX := Lib.hid (HR0.out.far (p := ⟨w.heap.size, 0, none⟩) (by show w.heap.size + 1 ≠ w.heap.size; omega) (.int .u8 48))
    have HWX := Lib.hid (HW0.out.setCell (p := ⟨w.heap.size, 0, none⟩) (Nat.le_refl _) (.int .u8 48))
    have HAX := Lib.hid (HA0.out.set_ 0 (.int .u8 48))
    clear h0
    cases s with
    | false =>
      have HAP : Hid (Blk (w1.setCell ⟨w.heap.size, 0, none⟩ (.int .u8 48)) w.heap.size 32 h.prom.cells) := Lib.hid (by rw [prom_ns H0.out HSS.out]; exact HAX.out)
      go_wp2_with (first
      | (go_at_call 19; refine (HSL _).out.mono ?_; rintro e w' ⟨rfl, rfl⟩)
      | (refine wpList_load_row (o := ⟨some 11, _, _, _, _, _⟩) rfl 32 (.tmp 1) rfl w.heap.size rfl 32 h.prom.arr (0, 0) _ HAP.out Tryz.underlying32 rfl h.prom.size_ ?_)
      | (refine wpList_store_row (o := ⟨none, _, _, _, _, _⟩) rfl 32 (.tmp 2) (.tmp 11) rfl (w.heap.size + 1) h.prom.arr rfl rfl 32 hd0.arr HRX.out h.prom.size_ rfl h.prom.one_ ?_))
      refine bodyPost_ret (results_cell_row rfl _ _ (w.heap.size + 1) 32 h.prom.arr (0, 0) _ rfl (setRow_blk _ _ _ hd0.cells h.prom.cells HRX.out) Tryz.underlying32 rfl h.prom.size_) rfl ?_
      exact ⟨rfl, HWX.out.grown (setRow_grown _ _ _) (Nat.le_trans (Nat.le_refl _) HWX.out.size) (fun q hq => by cases hq; exact Nat.le_succ _)⟩
    | true =>
      have HRX2 := Lib.hid (HRX.out.far (p := ⟨w.heap.size, 0, none⟩) (by show w.heap.size + 1 ≠ w.heap.size; omega) (.int .u8 53))
      have HWX2 := Lib.hid (HWX.out.setCell (p := ⟨w.heap.size, 0, none⟩) (Nat.le_refl _) (.int .u8 53))
      have HAP : Hid (Blk ((w1.setCell ⟨w.heap.size, 0, none⟩ (.int .u8 48)).setCell ⟨w.heap.size, 0, none⟩ (.int .u8 53)) w.heap.size 32 h.prom.cells) := Lib.hid (by
        rw [prom_sl H0.out HSS.out]
        have h2 := HAX.out.set_ 0 (.int .u8 53)
        rwa [List.set_set] at h2)
      go_wp2_with (first
      | (go_at_call 19; refine (HSL _).out.mono ?_; rintro e w' ⟨rfl, rfl⟩)
      | (refine wpList_load_row (o := ⟨some 11, _, _, _, _, _⟩) rfl 32 (.tmp 1) rfl w.heap.size rfl 32 h.prom.arr (0, 0) _ HAP.out Tryz.underlying32 rfl h.prom.size_ ?_)
      | (refine wpList_store_row (o := ⟨none, _, _, _, _, _⟩) rfl 32 (.tmp 2) (.tmp 11) rfl (w.heap.size + 1) h.prom.arr rfl rfl 32 hd0.arr HRX2.out h.prom.size_ rfl h.prom.one_ ?_))
      refine bodyPost_ret (results_cell_row rfl _ _ (w.heap.size + 1) 32 h.prom.arr (0, 0) _ rfl (setRow_blk _ _ _ hd0.cells h.prom.cells HRX2.out) Tryz.underlying32 rfl h.prom.size_) rfl ?_
      exact ⟨rfl, HWX2.out.grown (setRow_grown _ _ _) (Nat.le_trans (Nat.le_refl _) HWX2.out.size) (fun q hq => by cases hq; exact Nat.le_succ _)⟩
  · rw [prom_no h0]
    have h0' : (h.ty == 0) = false := by simpa using h0
    unfold Hd.val
    go_enter Tryz.func18, Tryz.ntmps18
    go_upto_region 1 with fail
    generalize (w.alloc (.cells h.arr 32)).alloc (.cells #[.int .u8 0, .string { data := #[] }, .string { data := #[] }, .int .i64 0, .int .i64 0, .int .i64 0, .int .i64 0, .string { data := #[] }, .string { data := #[] }, .int .i64 0, .int .i64 0, .bool false, .bool false, .int .i64 0, .int .i64 0, .int .i64 0, .int .i64 0, .int .i64 0, .int .i64 0, .slice none 0 0, .int .i64 0] 32) = w1 at HA0 HR0 HW0 ⊢
    have k0 : w1.cell? ⟨w.heap.size, 0, none⟩ = some (.int .u8 h.ty) := HA0.out.cell 0
    go_wp2_with (first
      | (refine wpList_load_row (o := ⟨some 11, _, _, _, _, _⟩) rfl 32 (.tmp 1) rfl w.heap.size rfl 32 h.arr (0, 0) _ HA0.out Tryz.underlying32 rfl h.size_ ?_)
      | (refine wpList_store_row (o := ⟨none, _, _, _, _, _⟩) rfl 32 (.tmp 2) (.tmp 11) rfl (w.heap.size + 1) h.arr rfl rfl 32 hd0.arr HR0.out h.size_ rfl h.one_ ?_))
    refine bodyPost_ret (results_cell_row rfl _ _ (w.heap.size + 1) 32 h.arr (0, 0) _ rfl (setRow_blk _ _ _ hd0.cells h.cells HR0.out) Tryz.underlying32 rfl h.size_) rfl ?_
    exact ⟨rfl, HW0.out.grown (setRow_grown _ _ _) (Nat.le_trans (Nat.le_refl _) HW0.out.size) (fun q hq => by cases hq; exact Nat.le_succ _)⟩
end Go.Proofs.YtepeehjajhehfaaGreatDoor
