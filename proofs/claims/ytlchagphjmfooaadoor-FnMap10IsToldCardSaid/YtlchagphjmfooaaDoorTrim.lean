/- zzTrimRight at a set of one byte. -/
import Derived.Test.YtlchagphjmfooaaDoorCut
import Derived.Deep.DeepMust
namespace Go.Proofs.YtlchagphjmfooaaDoor
open Go.RowKit Go.PlainAid
set_option linter.unusedVariables false

/-- Behind place m all bytes are c, and none is just ahead of it. -/
def Trimmed (c : UInt8) (s : ByteArray) (m : Nat) : Prop := m ≤ s.size ∧ (∀ j, m ≤ j → j < s.size → bt s j = (c.toNat : Int)) ∧ (0 < m → bt s (m - 1) ≠ (c.toNat : Int))
theorem bt_one (c : UInt8) : bt ⟨#[c]⟩ 0 = (c.toNat : Int) := by
  unfold bt
  rw [dif_pos (show 0 < (⟨#[c]⟩ : ByteArray).size from Nat.one_pos)]
  rfl
set_option maxRecDepth 20000 in
set_option maxHeartbeats 1600000 in
theorem trimRight1 (s : ByteArray) (c : UInt8) (w : World) (hs : s.size ≤ 4611686018427387904) :
    Calls Tryd.prog 82 #[.string s, .string ⟨#[c]⟩] w fun e w' => (∃ m, Trimmed c s m ∧ e = .returned (.string (s.extract 0 m))) ∧ ∃ k, w' = w.drewN k := by
  have hb := get_bt s
  have hb1 := get_bt ⟨#[c]⟩
  have hb2 := bt_one c
  go_enter Tryd.func82, Tryd.ntmps82
  go_upto_block 0 with fail
  go_cut [5] (fun v wr => ∃ m k : Nat, m ≤ s.size ∧ v = .int .i64 m ∧ wr = w.drewN k ∧ Hid (Trimmed c s m))
  case first =>
    go_wp2
    go_loopw [5] (fun v wr => ∃ m k : Nat, m ≤ s.size ∧ v = .int .i64 m ∧ wr = w.drewN k ∧ Hid (∀ j, m ≤ j → j < s.size → bt s j = (c.toNat : Int))) (fun v _ => (intOf v).toNat)
    case atStart => exact ⟨s.size, 0, by omega, rfl, rfl, Lib.hid (fun j h1 h2 => by omega)⟩
    case round =>
      obtain ⟨m, q, hm, rfl, rfl, hg⟩ := hrel
      by_cases h0 : 0 < m
      · obtain ⟨d, hd⟩ : ∃ d, ((c.toNat : Int) == bt s (m - 1)) = d := ⟨_, rfl⟩
        have HD := Lib.hid hd
        clear hd
        go_wp2
        go_loopw [6, 7] (fun b v wr => ∃ (f : Bool) (i k : Nat), i ≤ 1 ∧ b = .bool f ∧ v = .int .i64 i ∧ wr = w.drewN k ∧ Hid (i = 0 → f = false) ∧ Hid (i = 1 → f = d)) (fun _ v _ => 1 - (intOf v).toNat)
        case atStart => exact ⟨false, 0, q, by omega, rfl, rfl, rfl, Lib.hid (fun _ => rfl), Lib.hid (fun h => by cases h)⟩
        case round =>
          obtain ⟨f, i, q2, hi, rfl, rfl, rfl, hf0, hf⟩ := hrel
          by_cases hi0 : i = 0
          · subst hi0
            obtain rfl : f = false := hf0.out rfl
            have hw1 : IntKind.i64.wrap ((m : Int) - 1) = (m : Int) - 1 := IntWalk.i64_in _ (by omega)
            have hw2 : ((m : Int) - 1).toNat = m - 1 := by omega
            have hw3 : (0 : Int) ≤ (m : Int) - 1 := by omega
            have hw4 : (m : Int) - 1 < (s.size : Int) := by omega
            have hw5 : m - 1 < s.size := by omega
            have hw6 := HD.out
            clear hf0 hf
            cases d with
            | false =>
              go_wp2
              go_region_held3 (fun _ => True) (trivial) (fail)
              all_goals
                go_wp2
                go_roundw
                case rel => exact ⟨false, 1, q2 + 1, by omega, rfl, rfl, rfl, Lib.hid (fun h => by cases h), Lib.hid (fun _ => rfl)⟩
                case measure => simp [intOf]
            | true =>
              go_wp2
              go_region_held3 (fun _ => True) (trivial) (fail)
              all_goals
                go_wp2
                go_roundw
                case rel => exact ⟨true, 1, q2 + 1, by omega, rfl, rfl, rfl, Lib.hid (fun h => by cases h), Lib.hid (fun _ => rfl)⟩
                case measure => simp [intOf]
          · obtain rfl : i = 1 := by omega
            obtain rfl : f = d := hf.out rfl
            have HB : Hid (f = true ↔ bt s (m - 1) = (c.toNat : Int)) := Lib.hid (by rw [← HD.out, beq_iff_eq]; exact eq_comm)
            cases f with
            | true =>
              have HG : Hid (∀ j, m - 1 ≤ j → j < s.size → bt s j = (c.toNat : Int)) := Lib.hid (fun j h1 h2 => by
                by_cases e : j = m - 1
                · rw [e]; exact HB.out.1 rfl
                · exact hg.out j (by omega) h2)
              go_wp2
              go_roundw
              case rel => exact ⟨m - 1, q2, by omega, by go_num, rfl, HG⟩
              case measure => simp [intOf]; omega
            | false =>
              have HT : Hid (Trimmed c s m) := Lib.hid ⟨hm, hg.out, fun _ e => by have := HB.out.2 e; cases this⟩
              go_wp2
              go_meet
              exact ⟨m, q2, by omega, rfl, rfl, HT⟩
      · obtain rfl : m = 0 := by omega
        have HT : Hid (Trimmed c s 0) := Lib.hid ⟨hm, hg.out, fun h => by omega⟩
        go_wp2
        go_meet
        exact ⟨0, q, by omega, rfl, rfl, HT⟩
  case rest =>
    obtain ⟨m, q, hm, rfl, rfl, hT⟩ := hcut
    have hm' : (m : Int) ≤ (s.size : Int) := by omega
    go_wp2
    go_ret
    exact ⟨⟨m, hT.out, rfl⟩, q, rfl⟩
end Go.Proofs.YtlchagphjmfooaaDoor
