/- The walks of the functions that convert lists of pieces. -/
import Derived.Test.YtiahifohkhdmdaaPieces
namespace Go.Proofs.Ytiahifohkhdmdaa
open Go.RowKit

theorem pinfo_zzIn : (Try.prog.info? 73).map (fun i => (i.zero, i.size, i.bytes)) = some (some (.agg #[.int .i64 0, .int .i64 0]), 2, 16) := by kernel_rfl

set_option maxRecDepth 20000 in
set_option maxHeartbeats 400000 in
theorem zzIn_any (A : Option Addr) (n c B : Nat) (ps : List (Int × Int)) (w : World) (hn : ps.length = n) (hr : RC w B A (pcs ps)) (hB : B ≤ w.heap.size) (hbig : n ≤ 2147483647) :
    Calls Try.prog 40 #[.slice A n c] w (Made 73 n ps w) := by
  have HN := Lib.hid hn
  have HR := Lib.hid hr
  clear hn hr
  go_enter Try.func40, Try.ntmps40
  go_wp2
  go_loopw [3, 8] (fun v i wr => ∃ k : Nat, k ≤ n ∧ i = .int .i64 k ∧ wr.ownsRow w.heap.size 73 2 v k (pcs (ps.take k)) ∧ Below w.heap.size w wr) (fun _ i _ => n - (intOf i).toNat)
  case atStart => exact ⟨0, by omega, rfl, World.ownsRow_nil _ _ _ _, Below.refl _ _⟩
  case round =>
    obtain ⟨k, hk, rfl, hown, hb⟩ := hrel
    by_cases hlt : k < n
    · obtain ⟨b, off, rfl, _, hc1, hc2⟩ := (HR.out.below (hb.mono hB)).piece (k := k) (by rw [HN.out]; exact hlt)
      have HO := Lib.hid hown
      have HB := Lib.hid hb
      clear hown hb
      have HB2 := Lib.hid ((HB.out.alloc (o := .cells #[.int .i64 (po ps k), .int .i64 (pl ps k)] 66) HB.out.size).alloc (o := .cells #[.int .i64 (po ps k), .int .i64 (pl ps k)] 73) (by have := HB.out.size; simp; omega))
      go_wp2_with (refine wpList_append_rc (o := ⟨some 15, _, _, _, _, _⟩) _ rfl (.tmp 12) (.tmp 14) _ rfl w.heap.size 73 _ 2 16 Try.underlying64 pinfo_zzIn rfl (by omega) _ k _ rfl ((HO.out.alloc _).alloc _) _ 1 1 _ _ rfl rfl (rc_new2 _ _ _ _) (two_one _ _) (by omega) (by omega) (by have := HB.out.size; simp; omega) ?_)
      intro v' w1 h1 h2 h3
      have HP := Lib.hid (pcs_take ps k (by rw [HN.out]; exact hlt))
      go_wp2
      go_roundw
      case rel => exact ⟨k + 1, by omega, by go_num, by rw [HP.out]; exact h1.out, HB2.out.grown h2.out (by have := HB.out.size; simp; omega) (fun g hg => (HO.out.lt g hg).1)⟩
      case measure => simp [intOf]; omega
    · obtain rfl : k = n := by omega
      have HT : Hid (ps.take k = ps) := by show _ = _; rw [List.take_of_length_le]; rw [HN.out]; exact Nat.le_refl _
      rw [HT.out] at hown
      have HO := Lib.hid hown
      clear hown
      go_wp2
      go_ret
      exact ⟨_, rfl, HO.out, hb⟩
theorem pinfo_zzOut : (Try.prog.info? 66).map (fun i => (i.zero, i.size, i.bytes)) = some (some (.agg #[.int .i64 0, .int .i64 0]), 2, 16) := by kernel_rfl

set_option maxRecDepth 20000 in
set_option maxHeartbeats 400000 in
theorem zzOut_any (A : Option Addr) (n c B : Nat) (ps : List (Int × Int)) (w : World) (hn : ps.length = n) (hr : RC w B A (pcs ps)) (hB : B ≤ w.heap.size) (hbig : n ≤ 2147483647) :
    Calls Try.prog 41 #[.slice A n c] w (Made 66 n ps w) := by
  have HN := Lib.hid hn
  have HR := Lib.hid hr
  clear hn hr
  go_enter Try.func41, Try.ntmps41
  go_wp2
  go_loopw [3, 8] (fun v i wr => ∃ k : Nat, k ≤ n ∧ i = .int .i64 k ∧ wr.ownsRow w.heap.size 66 2 v k (pcs (ps.take k)) ∧ Below w.heap.size w wr) (fun _ i _ => n - (intOf i).toNat)
  case atStart => exact ⟨0, by omega, rfl, World.ownsRow_nil _ _ _ _, Below.refl _ _⟩
  case round =>
    obtain ⟨k, hk, rfl, hown, hb⟩ := hrel
    by_cases hlt : k < n
    · obtain ⟨b, off, rfl, _, hc1, hc2⟩ := (HR.out.below (hb.mono hB)).piece (k := k) (by rw [HN.out]; exact hlt)
      have HO := Lib.hid hown
      have HB := Lib.hid hb
      clear hown hb
      have HB2 := Lib.hid ((HB.out.alloc (o := .cells #[.int .i64 (po ps k), .int .i64 (pl ps k)] 73) HB.out.size).alloc (o := .cells #[.int .i64 (po ps k), .int .i64 (pl ps k)] 66) (by have := HB.out.size; simp; omega))
      go_wp2_with (refine wpList_append_rc (o := ⟨some 15, _, _, _, _, _⟩) _ rfl (.tmp 12) (.tmp 14) _ rfl w.heap.size 66 _ 2 16 Try.underlying51 pinfo_zzOut rfl (by omega) _ k _ rfl ((HO.out.alloc _).alloc _) _ 1 1 _ _ rfl rfl (rc_new2 _ _ _ _) (two_one _ _) (by omega) (by omega) (by have := HB.out.size; simp; omega) ?_)
      intro v' w1 h1 h2 h3
      have HP := Lib.hid (pcs_take ps k (by rw [HN.out]; exact hlt))
      go_wp2
      go_roundw
      case rel => exact ⟨k + 1, by omega, by go_num, by rw [HP.out]; exact h1.out, HB2.out.grown h2.out (by have := HB.out.size; simp; omega) (fun g hg => (HO.out.lt g hg).1)⟩
      case measure => simp [intOf]; omega
    · obtain rfl : k = n := by omega
      have HT : Hid (ps.take k = ps) := by show _ = _; rw [List.take_of_length_le]; rw [HN.out]; exact Nat.le_refl _
      rw [HT.out] at hown
      have HO := Lib.hid hown
      clear hown
      go_wp2
      go_ret
      exact ⟨_, rfl, HO.out, hb⟩
theorem pinfo_implPieces : (Try.prog.info? 66).map (fun i => (i.zero, i.size, i.bytes)) = some (some (.agg #[.int .i64 0, .int .i64 0]), 2, 16) := by kernel_rfl

set_option maxRecDepth 20000 in
set_option maxHeartbeats 400000 in
theorem implPieces_any (A : Option Addr) (n c B : Nat) (ps : List (Int × Int)) (w : World) (hn : ps.length = n) (hr : RC w B A (pcs ps)) (hB : B ≤ w.heap.size) (hbig : n ≤ 2147483647) :
    Calls Try.prog 30 #[.slice A n c] w (Made 66 n ps w) := by
  have HN := Lib.hid hn
  have HR := Lib.hid hr
  clear hn hr
  go_enter Try.func30, Try.ntmps30
  go_wp2
  go_loopw [3, 8] (fun v i wr => ∃ k : Nat, k ≤ n ∧ i = .int .i64 k ∧ wr.ownsRow w.heap.size 66 2 v k (pcs (ps.take k)) ∧ Below w.heap.size w wr) (fun _ i _ => n - (intOf i).toNat)
  case atStart => exact ⟨0, by omega, rfl, World.ownsRow_nil _ _ _ _, Below.refl _ _⟩
  case round =>
    obtain ⟨k, hk, rfl, hown, hb⟩ := hrel
    by_cases hlt : k < n
    · obtain ⟨b, off, rfl, _, hc1, hc2⟩ := (HR.out.below (hb.mono hB)).piece (k := k) (by rw [HN.out]; exact hlt)
      have HO := Lib.hid hown
      have HB := Lib.hid hb
      clear hown hb
      have HB2 := Lib.hid ((HB.out.alloc (o := .cells #[.int .i64 (po ps k), .int .i64 (pl ps k)] 32) HB.out.size).alloc (o := .cells #[.int .i64 (po ps k), .int .i64 (pl ps k)] 66) (by have := HB.out.size; simp; omega))
      go_wp2_with (refine wpList_append_rc (o := ⟨some 15, _, _, _, _, _⟩) _ rfl (.tmp 12) (.tmp 14) _ rfl w.heap.size 66 _ 2 16 Try.underlying51 pinfo_implPieces rfl (by omega) _ k _ rfl ((HO.out.alloc _).alloc _) _ 1 1 _ _ rfl rfl (rc_new2 _ _ _ _) (two_one _ _) (by omega) (by omega) (by have := HB.out.size; simp; omega) ?_)
      intro v' w1 h1 h2 h3
      have HP := Lib.hid (pcs_take ps k (by rw [HN.out]; exact hlt))
      go_wp2
      go_roundw
      case rel => exact ⟨k + 1, by omega, by go_num, by rw [HP.out]; exact h1.out, HB2.out.grown h2.out (by have := HB.out.size; simp; omega) (fun g hg => (HO.out.lt g hg).1)⟩
      case measure => simp [intOf]; omega
    · obtain rfl : k = n := by omega
      have HT : Hid (ps.take k = ps) := by show _ = _; rw [List.take_of_length_le]; rw [HN.out]; exact Nat.le_refl _
      rw [HT.out] at hown
      have HO := Lib.hid hown
      clear hown
      go_wp2
      go_ret
      exact ⟨_, rfl, HO.out, hb⟩
theorem pinfo_implBack : (Try.prog.info? 32).map (fun i => (i.zero, i.size, i.bytes)) = some (some (.agg #[.int .i64 0, .int .i64 0]), 2, 16) := by kernel_rfl

set_option maxRecDepth 20000 in
set_option maxHeartbeats 400000 in
theorem implBack_any (A : Option Addr) (n c B : Nat) (ps : List (Int × Int)) (w : World) (hn : ps.length = n) (hr : RC w B A (pcs ps)) (hB : B ≤ w.heap.size) (hbig : n ≤ 2147483647) :
    Calls Try.prog 31 #[.slice A n c] w (Made 32 n ps w) := by
  have HN := Lib.hid hn
  have HR := Lib.hid hr
  clear hn hr
  go_enter Try.func31, Try.ntmps31
  go_wp2
  go_loopw [3, 8] (fun v i wr => ∃ k : Nat, k ≤ n ∧ i = .int .i64 k ∧ wr.ownsRow w.heap.size 32 2 v k (pcs (ps.take k)) ∧ Below w.heap.size w wr) (fun _ i _ => n - (intOf i).toNat)
  case atStart => exact ⟨0, by omega, rfl, World.ownsRow_nil _ _ _ _, Below.refl _ _⟩
  case round =>
    obtain ⟨k, hk, rfl, hown, hb⟩ := hrel
    by_cases hlt : k < n
    · obtain ⟨b, off, rfl, _, hc1, hc2⟩ := (HR.out.below (hb.mono hB)).piece (k := k) (by rw [HN.out]; exact hlt)
      have HO := Lib.hid hown
      have HB := Lib.hid hb
      clear hown hb
      have HB2 := Lib.hid ((HB.out.alloc (o := .cells #[.int .i64 (po ps k), .int .i64 (pl ps k)] 66) HB.out.size).alloc (o := .cells #[.int .i64 (po ps k), .int .i64 (pl ps k)] 32) (by have := HB.out.size; simp; omega))
      go_wp2_with (refine wpList_append_rc (o := ⟨some 15, _, _, _, _, _⟩) _ rfl (.tmp 12) (.tmp 14) _ rfl w.heap.size 32 _ 2 16 Try.underlying29 pinfo_implBack rfl (by omega) _ k _ rfl ((HO.out.alloc _).alloc _) _ 1 1 _ _ rfl rfl (rc_new2 _ _ _ _) (two_one _ _) (by omega) (by omega) (by have := HB.out.size; simp; omega) ?_)
      intro v' w1 h1 h2 h3
      have HP := Lib.hid (pcs_take ps k (by rw [HN.out]; exact hlt))
      go_wp2
      go_roundw
      case rel => exact ⟨k + 1, by omega, by go_num, by rw [HP.out]; exact h1.out, HB2.out.grown h2.out (by have := HB.out.size; simp; omega) (fun g hg => (HO.out.lt g hg).1)⟩
      case measure => simp [intOf]; omega
    · obtain rfl : k = n := by omega
      have HT : Hid (ps.take k = ps) := by show _ = _; rw [List.take_of_length_le]; rw [HN.out]; exact Nat.le_refl _
      rw [HT.out] at hown
      have HO := Lib.hid hown
      clear hown
      go_wp2
      go_ret
      exact ⟨_, rfl, HO.out, hb⟩
theorem pinfo_pieceList : (Try.prog.info? 32).map (fun i => (i.zero, i.size, i.bytes)) = some (some (.agg #[.int .i64 0, .int .i64 0]), 2, 16) := by kernel_rfl

set_option maxRecDepth 20000 in
set_option maxHeartbeats 400000 in
theorem pieceList_any (A : Option Addr) (n c B : Nat) (ps : List (Int × Int)) (w : World) (hn : ps.length = n) (hr : RC w B A (pcs ps)) (hB : B ≤ w.heap.size) (hbig : n ≤ 2147483647) :
    Calls Try.prog 19 #[.slice A n c] w (Made 32 n ps w) := by
  have HN := Lib.hid hn
  have HR := Lib.hid hr
  clear hn hr
  go_enter Try.func19, Try.ntmps19
  go_wp2
  go_loopw [3, 8] (fun v i wr => ∃ k : Nat, k ≤ n ∧ i = .int .i64 k ∧ wr.ownsRow w.heap.size 32 2 v k (pcs (ps.take k)) ∧ Below w.heap.size w wr) (fun _ i _ => n - (intOf i).toNat)
  case atStart => exact ⟨0, by omega, rfl, World.ownsRow_nil _ _ _ _, Below.refl _ _⟩
  case round =>
    obtain ⟨k, hk, rfl, hown, hb⟩ := hrel
    by_cases hlt : k < n
    · obtain ⟨b, off, rfl, _, hc1, hc2⟩ := (HR.out.below (hb.mono hB)).piece (k := k) (by rw [HN.out]; exact hlt)
      have HO := Lib.hid hown
      have HB := Lib.hid hb
      clear hown hb
      have HB2 := Lib.hid ((HB.out.alloc (o := .cells #[.int .i64 (po ps k), .int .i64 (pl ps k)] 33) HB.out.size).alloc (o := .cells #[.int .i64 (po ps k), .int .i64 (pl ps k)] 32) (by have := HB.out.size; simp; omega))
      go_wp2_with (refine wpList_append_rc (o := ⟨some 15, _, _, _, _, _⟩) _ rfl (.tmp 12) (.tmp 14) _ rfl w.heap.size 32 _ 2 16 Try.underlying29 pinfo_pieceList rfl (by omega) _ k _ rfl ((HO.out.alloc _).alloc _) _ 1 1 _ _ rfl rfl (rc_new2 _ _ _ _) (two_one _ _) (by omega) (by omega) (by have := HB.out.size; simp; omega) ?_)
      intro v' w1 h1 h2 h3
      have HP := Lib.hid (pcs_take ps k (by rw [HN.out]; exact hlt))
      go_wp2
      go_roundw
      case rel => exact ⟨k + 1, by omega, by go_num, by rw [HP.out]; exact h1.out, HB2.out.grown h2.out (by have := HB.out.size; simp; omega) (fun g hg => (HO.out.lt g hg).1)⟩
      case measure => simp [intOf]; omega
    · obtain rfl : k = n := by omega
      have HT : Hid (ps.take k = ps) := by show _ = _; rw [List.take_of_length_le]; rw [HN.out]; exact Nat.le_refl _
      rw [HT.out] at hown
      have HO := Lib.hid hown
      clear hown
      go_wp2
      go_ret
      exact ⟨_, rfl, HO.out, hb⟩
end Go.Proofs.Ytiahifohkhdmdaa
