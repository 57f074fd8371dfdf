/- The law FnSplit: its plain part and its walks. -/
import Derived.Test.YtepeehjajhehfaaGreatDoorRows
import Derived.Test.YtepeehjajhehfaaGreatDoorO
import Derived.Test.YtepeehjajhehfaaGreatDoorShelf
import Derived.Laws.RangeString
import Derived.Deep.CutBlock
import Derived.Deep.DeepCutAuto
import Derived.Lib.LastIndexByte
import Derived.Deep.LoopGhost
namespace Go.Proofs.YtepeehjajhehfaaGreatDoor
open Go.RowKit Go.PlainAid

/-- All bytes are below 128, and none is 0. -/
def Asc (s : ByteArray) : Prop := ∀ k, k < s.size → 0 < bt s k ∧ bt s k < 128
noncomputable def asc (s : ByteArray) : Bool := @decide (Asc s) (Classical.propDecidable _)
theorem asc_true {s : ByteArray} (h : Asc s) : asc s = true := by simp [asc, h]
theorem asc_false {s : ByteArray} (h : ¬ Asc s) : asc s = false := by simp [asc, h]
theorem asc_bad {s : ByteArray} (k : Nat) (hk : k < s.size) (h : ¬ (0 < bt s k ∧ bt s k < 128)) : asc s = false := asc_false fun hh => h (hh k hk)
theorem all_succ {p : Nat → Prop} {k : Nat} (h : ∀ j, j < k → p j) (h1 : p k) : ∀ j, j < k + 1 → p j := by
  intro j hj
  by_cases h2 : j < k
  · exact h j h2
  · obtain rfl : j = k := by omega
    exact h1

set_option maxRecDepth 20000 in
set_option maxHeartbeats 400000 in
theorem specASCII (s : ByteArray) (w : World) (hs : s.size ≤ 4611686018427387904) :
    Calls Tryz.prog 40 #[.string s] w fun e w' => e = .returned (.bool (asc s)) ∧ w = w' := by
  have hb := get_bt s
  go_enter Tryz.func40, Tryz.ntmps40
  go_wp2
  go_loop [6] (fun v => ∃ k : Nat, k ≤ s.size ∧ v = .int .i64 k ∧ Hid (∀ j, j < k → 0 < bt s j ∧ bt s j < 128)) (fun v => s.size - (intOf v).toNat)
  case atStart => exact ⟨0, by omega, rfl, (show ∀ j, j < 0 → _ from fun j hj => by omega)⟩
  case round =>
    obtain ⟨k, hk, rfl, hg⟩ := hrel
    by_cases hlt : k < s.size
    · have b1 := bt_nonneg s k
      have b2 := bt_le s k
      by_cases t1 : 128 ≤ bt s k
      · have HE := Lib.hid (asc_bad k hlt (by omega))
        go_wp2
        go_ret
        exact ⟨by rw [HE.out]; rfl, rfl⟩
      by_cases t2 : bt s k = 0
      · have HE := Lib.hid (asc_bad k hlt (by omega))
        have t2' : (bt s k == 0) = true := by rw [t2]; rfl
        clear t2
        go_wp2
        go_ret
        exact ⟨by rw [HE.out]; rfl, rfl⟩
      · have t2' : (bt s k == 0) = false := by simpa using t2
        have HE : Hid (0 < bt s k ∧ bt s k < 128) := by show _ ∧ _; omega
        go_wp2
        go_round
        case rel => exact ⟨k + 1, by omega, by go_num, all_succ hg.out HE.out⟩
        case measure => simp [intOf]; omega
    · obtain rfl : k = s.size := by omega
      have HE := Lib.hid (asc_true (s := s) hg.out)
      go_wp2
      go_ret
      exact ⟨by rw [HE.out]; rfl, rfl⟩

/-- The Go text's own test on a string of ASCII. -/
theorem next_bt (w : World) (s : ByteArray) (pos : Nat) (ty : TypeId) (h : pos < s.size) (ha : bt s pos < 128) :
    (Instr.next (.pointer (some ⟨w.heap.size, 0, none⟩)) true ty).run Tryz.prog (w.iter s pos) = .ok (.tuple #[.bool true, .int .i64 pos, .int .i32 (bt s pos)]) (w.iter s (pos + 1)) := by
  have e : ((s[pos]'h).toNat : Int) = bt s pos := get_bt s pos h
  have h1 : (s[pos]'h).toNat < 128 := by omega
  rw [run_next_ascii w s pos ty h h1, e]

set_option maxRecDepth 20000 in
set_option maxHeartbeats 400000 in
theorem isASCII_yes (s : ByteArray) (w : World) (hs : s.size ≤ 4611686018427387904) (hA : Asc s) :
    Calls Tryz.prog 74 #[.string s] w fun e w' => e = .returned (.bool true) ∧ Below w.heap.size w w' := by
  have HA := Lib.hid hA
  clear hA
  go_enter Tryz.func74, Tryz.ntmps74
  go_wp2
  go_loopg [7] (s.size + 1) (fun gq v wr => ∃ k : Nat, k ≤ s.size ∧ k + gq = s.size + 1 ∧ wr = w.iter s k)
  case atStart => exact ⟨0, by omega, by omega, rfl⟩
  case round =>
    obtain ⟨k, hk, hkg, rfl⟩ := hrel
    have HKG := Lib.hid hkg
    clear hkg
    by_cases hlt : k < s.size
    · obtain ⟨b1, b2⟩ := HA.out k hlt
      have hn := next_bt w s k
      have t2 : (bt s k == 0) = false := by rw [beq_eq_false_iff_ne]; omega
      go_wp2
      go_roundg (gk - 1)
      case measure => have := HKG.out; omega
      case rel => exact ⟨k + 1, by omega, by have := HKG.out; omega, rfl⟩
    · have hn := fun ty => run_next_end (P := Tryz.prog) w s k ty hlt
      go_wp2
      go_ret
      exact ⟨rfl, (Below.refl _ _).alloc (Nat.le_refl _) _⟩

/-! ### Where a path can be parted -/
def Sp (s : ByteArray) (i : Nat) : Prop := 1 ≤ i ∧ i ≤ 155 ∧ i < s.size ∧ bt s i = 47 ∧ 1 ≤ (s.size : Int) - i - 1 ∧ (s.size : Int) - i - 1 ≤ 100
noncomputable def spB (s : ByteArray) (i : Nat) : Bool := @decide (Sp s i) (Classical.propDecidable _)
theorem spB_true {s : ByteArray} {i : Nat} (h : Sp s i) : spB s i = true := by simp [spB, h]
theorem spB_false {s : ByteArray} {i : Nat} (h : ¬ Sp s i) : spB s i = false := by simp [spB, h]

set_option maxRecDepth 20000 in
set_option maxHeartbeats 800000 in
theorem specSplit (s : ByteArray) (i : Nat) (w : World) (hs : s.size ≤ 4611686018427387904) (hi : i ≤ 4611686018427387904) :
    Calls Tryz.prog 42 #[.string s, .int .i64 i] w fun e w' => e = .returned (.bool (spB s i)) ∧ w = w' := by
  have hb := get_bt s
  by_cases t1 : i < 1
  · have HE := Lib.hid (spB_false (s := s) (i := i) (fun h => by unfold Sp at h; omega))
    go_enter Tryz.func42, Tryz.ntmps42
    go_wp2
    go_ret
    exact ⟨by rw [HE.out]; rfl, rfl⟩
  by_cases t2 : 155 < i
  · have HE := Lib.hid (spB_false (s := s) (i := i) (fun h => by unfold Sp at h; omega))
    go_enter Tryz.func42, Tryz.ntmps42
    go_wp2
    go_ret
    exact ⟨by rw [HE.out]; rfl, rfl⟩
  by_cases t3 : s.size ≤ i
  · have HE := Lib.hid (spB_false (s := s) (i := i) (fun h => by unfold Sp at h; omega))
    go_enter Tryz.func42, Tryz.ntmps42
    go_wp2
    go_ret
    exact ⟨by rw [HE.out]; rfl, rfl⟩
  have hlt : i < s.size := by omega
  by_cases t4 : bt s i = 47
  · have t4' : (bt s i == 47) = true := by rw [t4]; rfl
    by_cases t5 : (s.size : Int) - i - 1 < 1
    · have HE := Lib.hid (spB_false (s := s) (i := i) (fun h => by unfold Sp at h; omega))
      clear t4
      go_enter Tryz.func42, Tryz.ntmps42
      go_wp2
      go_ret
      exact ⟨by rw [HE.out]; rfl, rfl⟩
    have HE : Hid (spB s i = decide ((s.size : Int) - i - 1 ≤ 100)) := by
      show _ = _
      by_cases t6 : (s.size : Int) - i - 1 ≤ 100
      · rw [spB_true (by unfold Sp; omega)]; simp [t6]
      · rw [spB_false (fun h => by unfold Sp at h; omega)]; simp [t6]
    clear t4
    go_enter Tryz.func42, Tryz.ntmps42
    go_wp2
    go_ret
    exact ⟨by rw [HE.out]; rfl, rfl⟩
  · have t4' : (bt s i == 47) = false := by simpa using t4
    have HE := Lib.hid (spB_false (s := s) (i := i) (fun h => by unfold Sp at h; omega))
    clear t4
    go_enter Tryz.func42, Tryz.ntmps42
    go_wp2
    go_ret
    exact ⟨by rw [HE.out]; rfl, rfl⟩

noncomputable def spAny (s : ByteArray) : Bool := @decide (∃ i, Sp s i) (Classical.propDecidable _)
set_option maxRecDepth 20000 in
set_option maxHeartbeats 800000 in
theorem specSplits (s : ByteArray) (w : World) (hs : s.size ≤ 4611686018427387903) (hno : ∀ i, ¬ Sp s i) :
    Calls Tryz.prog 22 #[.string s] w fun e w' => e = .returned (.bool false) ∧ w = w' := by
  have HNO := Lib.hid hno
  clear hno
  go_enter Tryz.func22, Tryz.ntmps22
  go_wp2
  go_loop [6] (fun v => ∃ k : Nat, k ≤ s.size ∧ v = .int .i64 k) (fun v => s.size - (intOf v).toNat)
  case atStart => exact ⟨0, by omega, rfl⟩
  case round =>
    obtain ⟨k, hk, rfl⟩ := hrel
    by_cases hlt : k < s.size
    · have HE := Lib.hid (spB_false (HNO.out k))
      go_wp2_with (go_at_call 42; refine (specSplit s k _ (by omega) (by omega)).mono ?_; rw [HE.out]; rintro e w' ⟨rfl, rfl⟩)
      go_round
      case rel => exact ⟨k + 1, by omega, by go_num⟩
      case measure => simp [intOf]; omega
    · go_wp2
      go_ret
      exact ⟨rfl, rfl⟩
end Go.Proofs.YtepeehjajhehfaaGreatDoor
