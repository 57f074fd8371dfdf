/- The walks of the functions that convert lists of pieces. -/
import Derived.Test.YtlchagphjmfooaaDoorPieces
namespace Go.Proofs.YtlchagphjmfooaaDoor
open Go.RowKit


theorem pinfo_zzOut : (Tryd.prog.info? 121).map (fun i => (i.zero, i.size, i.bytes)) = some (some (.agg #[.int .i64 0, .int .i64 0]), 2, 16) := by kernel_rfl

set_option maxRecDepth 20000 in
set_option maxHeartbeats 400000 in
theorem zzOut_any (A : Option Addr) (n c B : Nat) (ps : List (Int × Int)) (w : World) (hn : ps.length = n) (hr : RC w B A (pcs ps)) (hB : B ≤ w.heap.size) (hbig : n ≤ 2147483647) :
    Calls Tryd.prog 60 #[.slice A n c] w (Made 121 n ps w) := by
  have HN := Lib.hid hn
  have HR := Lib.hid hr
  clear hn hr
  go_enter Tryd.func60, Tryd.ntmps60
  go_wp2
  go_loopw [3, 8] (fun v i wr => ∃ k : Nat, k ≤ n ∧ i = .int .i64 k ∧ wr.ownsRow w.heap.size 121 2 v k (pcs (ps.take k)) ∧ Below w.heap.size w wr) (fun _ i _ => n - (intOf i).toNat)
  case atStart => exact ⟨0, by omega, rfl, World.ownsRow_nil _ _ _ _, Below.refl _ _⟩
  case round =>
    obtain ⟨k, hk, rfl, hown, hb⟩ := hrel
    by_cases hlt : k < n
    · obtain ⟨b, off, rfl, _, hc1, hc2⟩ := (HR.out.below (hb.mono hB)).piece (k := k) (by rw [HN.out]; exact hlt)
      have HO := Lib.hid hown
      have HB := Lib.hid hb
      clear hown hb
      have HB2 := Lib.hid ((HB.out.alloc (o := .cells #[.int .i64 (po ps k), .int .i64 (pl ps k)] 141) HB.out.size).alloc (o := .cells #[.int .i64 (po ps k), .int .i64 (pl ps k)] 121) (by have := HB.out.size; simp; omega))
      go_wp2_with (refine wpList_append_rc (o := ⟨some 15, _, _, _, _, _⟩) _ rfl (.tmp 12) (.tmp 14) _ rfl w.heap.size 121 _ 2 16 Tryd.underlying89 pinfo_zzOut rfl (by omega) _ k _ rfl ((HO.out.alloc _).alloc _) _ 1 1 _ _ rfl rfl (rc_new2 _ _ _ _) (two_one _ _) (by omega) (by omega) (by have := HB.out.size; simp; omega) ?_)
      intro v' w1 h1 h2 h3
      have HP := Lib.hid (pcs_take ps k (by rw [HN.out]; exact hlt))
      go_wp2
      go_roundw
      case rel => exact ⟨k + 1, by omega, by go_num, by rw [HP.out]; exact h1.out, HB2.out.grown h2.out (by have := HB.out.size; simp; omega) (fun g hg => (HO.out.lt g hg).1)⟩
      case measure => simp [intOf]; omega
    · obtain rfl : k = n := by omega
      have HT : Hid (ps.take k = ps) := by show _ = _; rw [List.take_of_length_le]; rw [HN.out]; exact Nat.le_refl _
      rw [HT.out] at hown
      have HO := Lib.hid hown
      clear hown
      go_wp2
      go_ret
      exact ⟨_, rfl, HO.out, hb⟩

theorem pinfo_implBack : (Tryd.prog.info? 54).map (fun i => (i.zero, i.size, i.bytes)) = some (some (.agg #[.int .i64 0, .int .i64 0]), 2, 16) := by kernel_rfl

set_option maxRecDepth 20000 in
set_option maxHeartbeats 400000 in
theorem implBack_any (A : Option Addr) (n c B : Nat) (ps : List (Int × Int)) (w : World) (hn : ps.length = n) (hr : RC w B A (pcs ps)) (hB : B ≤ w.heap.size) (hbig : n ≤ 2147483647) :
    Calls Tryd.prog 43 #[.slice A n c] w (Made 54 n ps w) := by
  have HN := Lib.hid hn
  have HR := Lib.hid hr
  clear hn hr
  go_enter Tryd.func43, Tryd.ntmps43
  go_wp2
  go_loopw [3, 8] (fun v i wr => ∃ k : Nat, k ≤ n ∧ i = .int .i64 k ∧ wr.ownsRow w.heap.size 54 2 v k (pcs (ps.take k)) ∧ Below w.heap.size w wr) (fun _ i _ => n - (intOf i).toNat)
  case atStart => exact ⟨0, by omega, rfl, World.ownsRow_nil _ _ _ _, Below.refl _ _⟩
  case round =>
    obtain ⟨k, hk, rfl, hown, hb⟩ := hrel
    by_cases hlt : k < n
    · obtain ⟨b, off, rfl, _, hc1, hc2⟩ := (HR.out.below (hb.mono hB)).piece (k := k) (by rw [HN.out]; exact hlt)
      have HO := Lib.hid hown
      have HB := Lib.hid hb
      clear hown hb
      have HB2 := Lib.hid ((HB.out.alloc (o := .cells #[.int .i64 (po ps k), .int .i64 (pl ps k)] 121) HB.out.size).alloc (o := .cells #[.int .i64 (po ps k), .int .i64 (pl ps k)] 54) (by have := HB.out.size; simp; omega))
      go_wp2_with (refine wpList_append_rc (o := ⟨some 15, _, _, _, _, _⟩) _ rfl (.tmp 12) (.tmp 14) _ rfl w.heap.size 54 _ 2 16 Tryd.underlying49 pinfo_implBack rfl (by omega) _ k _ rfl ((HO.out.alloc _).alloc _) _ 1 1 _ _ rfl rfl (rc_new2 _ _ _ _) (two_one _ _) (by omega) (by omega) (by have := HB.out.size; simp; omega) ?_)
      intro v' w1 h1 h2 h3
      have HP := Lib.hid (pcs_take ps k (by rw [HN.out]; exact hlt))
      go_wp2
      go_roundw
      case rel => exact ⟨k + 1, by omega, by go_num, by rw [HP.out]; exact h1.out, HB2.out.grown h2.out (by have := HB.out.size; simp; omega) (fun g hg => (HO.out.lt g hg).1)⟩
      case measure => simp [intOf]; omega
    · obtain rfl : k = n := by omega
      have HT : Hid (ps.take k = ps) := by show _ = _; rw [List.take_of_length_le]; rw [HN.out]; exact Nat.le_refl _
      rw [HT.out] at hown
      have HO := Lib.hid hown
      clear hown
      go_wp2
      go_ret
      exact ⟨_, rfl, HO.out, hb⟩

end Go.Proofs.YtlchagphjmfooaaDoor
