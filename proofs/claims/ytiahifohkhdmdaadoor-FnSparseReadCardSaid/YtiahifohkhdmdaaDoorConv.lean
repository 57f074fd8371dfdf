/- The walks of the functions that convert lists of pieces. -/
import Derived.Test.YtiahifohkhdmdaaDoorPieces
namespace Go.Proofs.YtiahifohkhdmdaaDoor
open Go.RowKit

theorem pinfo_zzIn : (Tryd.prog.info? 95).map (fun i => (i.zero, i.size, i.bytes)) = some (some (.agg #[.int .i64 0, .int .i64 0]), 2, 16) := by kernel_rfl

set_option maxRecDepth 20000 in
set_option maxHeartbeats 400000 in
theorem zzIn_any (A : Option Addr) (n c B : Nat) (ps : List (Int × Int)) (w : World) (hn : ps.length = n) (hr : RC w B A (pcs ps)) (hB : B ≤ w.heap.size) (hbig : n ≤ 2147483647) :
    Calls Tryd.prog 31 #[.slice A n c] w (Made 95 n ps w) := by
  have HN := Lib.hid hn
  have HR := Lib.hid hr
  clear hn hr
  go_enter Tryd.func31, Tryd.ntmps31
  go_wp2
  go_loopw [3, 8] (fun v i wr => ∃ k : Nat, k ≤ n ∧ i = .int .i64 k ∧ wr.ownsRow w.heap.size 95 2 v k (pcs (ps.take k)) ∧ Below w.heap.size w wr) (fun _ i _ => n - (intOf i).toNat)
  case atStart => exact ⟨0, by omega, rfl, World.ownsRow_nil _ _ _ _, Below.refl _ _⟩
  case round =>
    obtain ⟨k, hk, rfl, hown, hb⟩ := hrel
    by_cases hlt : k < n
    · obtain ⟨b, off, rfl, _, hc1, hc2⟩ := (HR.out.below (hb.mono hB)).piece (k := k) (by rw [HN.out]; exact hlt)
      have HO := Lib.hid hown
      have HB := Lib.hid hb
      clear hown hb
      have HB2 := Lib.hid ((HB.out.alloc (o := .cells #[.int .i64 (po ps k), .int .i64 (pl ps k)] 88) HB.out.size).alloc (o := .cells #[.int .i64 (po ps k), .int .i64 (pl ps k)] 95) (by have := HB.out.size; simp; omega))
      go_wp2_with (refine wpList_append_rc (o := ⟨some 15, _, _, _, _, _⟩) _ rfl (.tmp 12) (.tmp 14) _ rfl w.heap.size 95 _ 2 16 Tryd.underlying81 pinfo_zzIn rfl (by omega) _ k _ rfl ((HO.out.alloc _).alloc _) _ 1 1 _ _ rfl rfl (rc_new2 _ _ _ _) (two_one _ _) (by omega) (by omega) (by have := HB.out.size; simp; omega) ?_)
      intro v' w1 h1 h2 h3
      have HP := Lib.hid (pcs_take ps k (by rw [HN.out]; exact hlt))
      go_wp2
      go_roundw
      case rel => exact ⟨k + 1, by omega, by go_num, by rw [HP.out]; exact h1.out, HB2.out.grown h2.out (by have := HB.out.size; simp; omega) (fun g hg => (HO.out.lt g hg).1)⟩
      case measure => simp [intOf]; omega
    · obtain rfl : k = n := by omega
      have HT : Hid (ps.take k = ps) := by show _ = _; rw [List.take_of_length_le]; rw [HN.out]; exact Nat.le_refl _
      rw [HT.out] at hown
      have HO := Lib.hid hown
      clear hown
      go_wp2
      go_ret
      exact ⟨_, rfl, HO.out, hb⟩

theorem pinfo_implPieces : (Tryd.prog.info? 88).map (fun i => (i.zero, i.size, i.bytes)) = some (some (.agg #[.int .i64 0, .int .i64 0]), 2, 16) := by kernel_rfl

set_option maxRecDepth 20000 in
set_option maxHeartbeats 400000 in
theorem implPieces_any (A : Option Addr) (n c B : Nat) (ps : List (Int × Int)) (w : World) (hn : ps.length = n) (hr : RC w B A (pcs ps)) (hB : B ≤ w.heap.size) (hbig : n ≤ 2147483647) :
    Calls Tryd.prog 23 #[.slice A n c] w (Made 88 n ps w) := by
  have HN := Lib.hid hn
  have HR := Lib.hid hr
  clear hn hr
  go_enter Tryd.func23, Tryd.ntmps23
  go_wp2
  go_loopw [3, 8] (fun v i wr => ∃ k : Nat, k ≤ n ∧ i = .int .i64 k ∧ wr.ownsRow w.heap.size 88 2 v k (pcs (ps.take k)) ∧ Below w.heap.size w wr) (fun _ i _ => n - (intOf i).toNat)
  case atStart => exact ⟨0, by omega, rfl, World.ownsRow_nil _ _ _ _, Below.refl _ _⟩
  case round =>
    obtain ⟨k, hk, rfl, hown, hb⟩ := hrel
    by_cases hlt : k < n
    · obtain ⟨b, off, rfl, _, hc1, hc2⟩ := (HR.out.below (hb.mono hB)).piece (k := k) (by rw [HN.out]; exact hlt)
      have HO := Lib.hid hown
      have HB := Lib.hid hb
      clear hown hb
      have HB2 := Lib.hid ((HB.out.alloc (o := .cells #[.int .i64 (po ps k), .int .i64 (pl ps k)] 51) HB.out.size).alloc (o := .cells #[.int .i64 (po ps k), .int .i64 (pl ps k)] 88) (by have := HB.out.size; simp; omega))
      go_wp2_with (refine wpList_append_rc (o := ⟨some 15, _, _, _, _, _⟩) _ rfl (.tmp 12) (.tmp 14) _ rfl w.heap.size 88 _ 2 16 Tryd.underlying49 pinfo_implPieces rfl (by omega) _ k _ rfl ((HO.out.alloc _).alloc _) _ 1 1 _ _ rfl rfl (rc_new2 _ _ _ _) (two_one _ _) (by omega) (by omega) (by have := HB.out.size; simp; omega) ?_)
      intro v' w1 h1 h2 h3
      have HP := Lib.hid (pcs_take ps k (by rw [HN.out]; exact hlt))
      go_wp2
      go_roundw
      case rel => exact ⟨k + 1, by omega, by go_num, by rw [HP.out]; exact h1.out, HB2.out.grown h2.out (by have := HB.out.size; simp; omega) (fun g hg => (HO.out.lt g hg).1)⟩
      case measure => simp [intOf]; omega
    · obtain rfl : k = n := by omega
      have HT : Hid (ps.take k = ps) := by show _ = _; rw [List.take_of_length_le]; rw [HN.out]; exact Nat.le_refl _
      rw [HT.out] at hown
      have HO := Lib.hid hown
      clear hown
      go_wp2
      go_ret
      exact ⟨_, rfl, HO.out, hb⟩

theorem pinfo_pieceList : (Tryd.prog.info? 51).map (fun i => (i.zero, i.size, i.bytes)) = some (some (.agg #[.int .i64 0, .int .i64 0]), 2, 16) := by kernel_rfl

set_option maxRecDepth 20000 in
set_option maxHeartbeats 400000 in
theorem pieceList_any (A : Option Addr) (n c B : Nat) (ps : List (Int × Int)) (w : World) (hn : ps.length = n) (hr : RC w B A (pcs ps)) (hB : B ≤ w.heap.size) (hbig : n ≤ 2147483647) :
    Calls Tryd.prog 17 #[.slice A n c] w (Made 51 n ps w) := by
  have HN := Lib.hid hn
  have HR := Lib.hid hr
  clear hn hr
  go_enter Tryd.func17, Tryd.ntmps17
  go_wp2
  go_loopw [3, 8] (fun v i wr => ∃ k : Nat, k ≤ n ∧ i = .int .i64 k ∧ wr.ownsRow w.heap.size 51 2 v k (pcs (ps.take k)) ∧ Below w.heap.size w wr) (fun _ i _ => n - (intOf i).toNat)
  case atStart => exact ⟨0, by omega, rfl, World.ownsRow_nil _ _ _ _, Below.refl _ _⟩
  case round =>
    obtain ⟨k, hk, rfl, hown, hb⟩ := hrel
    by_cases hlt : k < n
    · obtain ⟨b, off, rfl, _, hc1, hc2⟩ := (HR.out.below (hb.mono hB)).piece (k := k) (by rw [HN.out]; exact hlt)
      have HO := Lib.hid hown
      have HB := Lib.hid hb
      clear hown hb
      have HB2 := Lib.hid ((HB.out.alloc (o := .cells #[.int .i64 (po ps k), .int .i64 (pl ps k)] 47) HB.out.size).alloc (o := .cells #[.int .i64 (po ps k), .int .i64 (pl ps k)] 51) (by have := HB.out.size; simp; omega))
      go_wp2_with (refine wpList_append_rc (o := ⟨some 15, _, _, _, _, _⟩) _ rfl (.tmp 12) (.tmp 14) _ rfl w.heap.size 51 _ 2 16 Tryd.underlying42 pinfo_pieceList rfl (by omega) _ k _ rfl ((HO.out.alloc _).alloc _) _ 1 1 _ _ rfl rfl (rc_new2 _ _ _ _) (two_one _ _) (by omega) (by omega) (by have := HB.out.size; simp; omega) ?_)
      intro v' w1 h1 h2 h3
      have HP := Lib.hid (pcs_take ps k (by rw [HN.out]; exact hlt))
      go_wp2
      go_roundw
      case rel => exact ⟨k + 1, by omega, by go_num, by rw [HP.out]; exact h1.out, HB2.out.grown h2.out (by have := HB.out.size; simp; omega) (fun g hg => (HO.out.lt g hg).1)⟩
      case measure => simp [intOf]; omega
    · obtain rfl : k = n := by omega
      have HT : Hid (ps.take k = ps) := by show _ = _; rw [List.take_of_length_le]; rw [HN.out]; exact Nat.le_refl _
      rw [HT.out] at hown
      have HO := Lib.hid hown
      clear hown
      go_wp2
      go_ret
      exact ⟨_, rfl, HO.out, hb⟩
end Go.Proofs.YtiahifohkhdmdaaDoor
