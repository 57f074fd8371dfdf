/- Walks for the law FnPutText: spec.PutText, laws.same, spec.HasNUL, zzTrimRight. -/
import Derived.Test.YtiahifohkhdmdaaDoorStr
import Derived.Deep.CutBlock
import Derived.Deep.DeepCutAuto
import Derived.Deep.RegionHeld3
namespace Go.Proofs.YtiahifohkhdmdaaDoor
open Go.RowKit Go.PlainAid
set_option linter.unusedVariables false

/-- A string laid at the beginning of a field of n bytes 0. -/
def padS (s : ByteArray) (n : Nat) : List UInt8 := splice (zbs n) 0 (s.data.toList.take n)
theorem length_padS (s : ByteArray) (n : Nat) : (padS s n).length = n := by
  unfold padS
  rw [length_splice _ _ _ (by simp [zbs, List.length_take]; omega)]
  simp [zbs]

set_option maxRecDepth 20000 in
set_option maxHeartbeats 400000 in
theorem specPutNo (s : ByteArray) (n : Nat) (w : World) (hs : s.size ≤ 4611686018427387904) (h : n < s.size) :
    Calls Tryd.prog 7 #[.int .i64 n, .string s] w fun e w' => e = .returned (.tuple #[.slice none 0 0, .bool false]) ∧ w = w' := by
  go_enter Tryd.func7, Tryd.ntmps7
  go_wp2
  go_ret2
  exact ⟨rfl, rfl⟩

set_option maxRecDepth 20000 in
set_option maxHeartbeats 400000 in
theorem specPutYes (s : ByteArray) (n : Nat) (w : World) (hn : n ≤ 4096) (h : s.size ≤ n) :
    Calls Tryd.prog 7 #[.int .i64 n, .string s] w fun e w' => e = .returned (.tuple #[.slice (some ⟨w.heap.size, 0, none⟩) n n, .bool true]) ∧
      Blk w' w.heap.size 5 (bys (padS s n)) ∧ Below w.heap.size w w' := by
  go_enter Tryd.func7, Tryd.ntmps7
  go_wp2_with (refine wpList_make_blk _ (o := ⟨some 12, _, _, _, _, _⟩) rfl _ _ _ rfl 5 _ 1 Tryd.underlying23 u8info rfl _ _ n n n rfl rfl rfl rfl (by omega) (by omega) ?_)
  intro w1 hb1 hg1 hz1
  rw [← bys_zbs] at hb1
  have HB1 := Lib.hid hb1.out
  clear hb1
  go_wp2_with (refine wpList_copy_string _ (o := ⟨some 15, _, _, _, _, _⟩) rfl (.tmp 13) (.tmp 14) 23 9 rfl 5 Tryd.underlying23 u8size w.heap.size n n s rfl rfl (zbs n) _ HB1.out (by rw [length_zbs]; omega) ?_)
  intro w2 hb2 hg2 hz2
  have HB2 := Lib.hid hb2.out
  clear hb2
  go_wp2
  go_ret2
  exact ⟨rfl, HB2.out, (grownBy_below hg1 (Nat.le_refl _) (fun g h => by cases h)).trans (grownBy_below hg2 (by omega) (fun g h => by cases h; omega))⟩

set_option maxRecDepth 20000 in
set_option maxHeartbeats 400000 in
theorem same_yes (A A' : Option Addr) (n c c' B B' : Nat) (bs : List UInt8) (w : World) (hn : bs.length = n) (hr : RB w B A bs) (hr' : RB w B' A' bs) :
    Calls Tryd.prog 9 #[.slice A n c, .slice A' n c'] w fun e w' => e = .returned (.bool true) ∧ w = w' := by
  have HN := Lib.hid hn
  have HR := Lib.hid hr
  have HR' := Lib.hid hr'
  clear hn hr hr'
  go_enter Tryd.func9, Tryd.ntmps9
  go_wp2_with (first
    | (refine wpList_conv_bytes (o := ⟨some 6, _, _, _, _, _⟩) _ rfl (.tmp 5) 23 9 5 rfl Tryd.underlying23 Tryd.underlying5 Tryd.underlying9 A n c B bs rfl HN.out HR.out ?_)
    | (refine wpList_conv_bytes (o := ⟨some 8, _, _, _, _, _⟩) _ rfl (.tmp 7) 23 9 5 rfl Tryd.underlying23 Tryd.underlying5 Tryd.underlying9 A' n c' B' bs rfl HN.out HR'.out ?_))
  go_ret
  exact ⟨rfl, rfl⟩

set_option maxRecDepth 20000 in
set_option maxHeartbeats 400000 in
theorem hasNUL (s : ByteArray) (w : World) (hs : s.size ≤ 4611686018427387904) :
    Calls Tryd.prog 10 #[.string s] w fun e w' => (e = .returned (.bool true) ∨ (e = .returned (.bool false) ∧ ∀ k, k < s.size → bt s k ≠ 0)) ∧ w = w' := by
  have hb := get_bt s
  go_enter Tryd.func10, Tryd.ntmps10
  go_wp2
  go_loop [6] (fun v => ∃ k : Nat, k ≤ s.size ∧ v = .int .i64 k ∧ Hid (∀ j, j < k → bt s j ≠ 0)) (fun v => s.size - (intOf v).toNat)
  case atStart => exact ⟨0, by omega, rfl, (show ∀ j, j < 0 → _ from fun j hj => by omega)⟩
  case round =>
    obtain ⟨k, hk, rfl, hg⟩ := hrel
    by_cases hlt : k < s.size
    · by_cases h0 : bt s k = 0
      · have h0' : (bt s k == 0) = true := by rw [h0]; rfl
        clear h0
        go_wp2
        go_ret
        exact ⟨.inl rfl, rfl⟩
      · have h0' : (bt s k == 0) = false := by simpa using h0
        have H0 := Lib.hid h0
        clear h0
        go_wp2
        go_round
        case rel => 
          refine ⟨k + 1, by omega, by go_num, (show ∀ j, j < k + 1 → _ from fun j hj => ?_)⟩
          by_cases hjk : j < k
          · exact hg.out j hjk
          · obtain rfl : j = k := by omega
            exact H0.out
        case measure => simp [intOf]; omega
    · obtain rfl : k = s.size := by omega
      go_wp2
      go_ret
      exact ⟨.inr ⟨rfl, hg.out⟩, rfl⟩

set_option maxRecDepth 20000 in
set_option maxHeartbeats 800000 in
theorem trimSlash (s : ByteArray) (w : World) (hs : s.size ≤ 4611686018427387904) :
    Calls Tryd.prog 33 #[.string s, .string ⟨#[47]⟩] w fun e w' => (∃ m, m ≤ s.size ∧ e = .returned (.string (s.extract 0 m))) ∧ ∃ k, w' = w.drewN k := by
  have hb := get_bt s
  go_enter Tryd.func33, Tryd.ntmps33
  go_upto_block 0 with fail
  go_cut [5] (fun v wr => ∃ m k : Nat, m ≤ s.size ∧ v = .int .i64 m ∧ wr = w.drewN k)
  case first =>
    go_wp2
    go_loopw [5] (fun v wr => ∃ m k : Nat, m ≤ s.size ∧ v = .int .i64 m ∧ wr = w.drewN k) (fun v _ => (intOf v).toNat)
    case atStart => exact ⟨s.size, 0, by omega, rfl, rfl⟩
    case round =>
      obtain ⟨m, q, hm, rfl, rfl⟩ := hrel
      by_cases h0 : 0 < m
      · go_wp2
        go_loopw [6, 7] (fun b v wr => ∃ (c : Bool) (i k : Nat), i ≤ 1 ∧ b = .bool c ∧ v = .int .i64 i ∧ wr = w.drewN k) (fun _ v _ => 1 - (intOf v).toNat)
        case atStart => exact ⟨false, 0, q, by omega, rfl, rfl, rfl⟩
        case round =>
          obtain ⟨c, i, q2, hi, rfl, rfl, rfl⟩ := hrel
          by_cases hi0 : i = 0
          · subst hi0
            have hw1 : IntKind.i64.wrap ((m : Int) - 1) = (m : Int) - 1 := IntWalk.i64_in _ (by omega)
            have hw2 : ((m : Int) - 1).toNat = m - 1 := by omega
            have hw3 : (0 : Int) ≤ (m : Int) - 1 := by omega
            have hw4 : (m : Int) - 1 < (s.size : Int) := by omega
            go_wp2
            go_region_held3 (fun _ => True) (trivial) (fail)
            clear hw1 hw2 hw3 hw4
            go_wp2
            all_goals
              go_roundw
              case rel => exact ⟨_, 1, q2 + 1, by omega, rfl, rfl, rfl⟩
              case measure => simp [intOf]
          · obtain rfl : i = 1 := by omega
            by_cases hc : c = true
            · subst hc
              go_wp2
              go_roundw
              case rel => exact ⟨m - 1, q2, by omega, by go_num, rfl⟩
              case measure => simp [intOf]; omega
            · obtain rfl : c = false := by simpa using hc
              go_wp2
              go_meet
              exact ⟨m, q2, by omega, rfl, rfl⟩
      · obtain rfl : m = 0 := by omega
        go_wp2
        go_meet
        exact ⟨0, q, by omega, rfl, rfl⟩
  case rest =>
    obtain ⟨m, q, hm, rfl, rfl⟩ := hcut
    have hm' : (m : Int) ≤ (s.size : Int) := by omega
    go_wp2
    go_ret
    exact ⟨⟨m, hm, rfl⟩, q, rfl⟩
end Go.Proofs.YtiahifohkhdmdaaDoor
