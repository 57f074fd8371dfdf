/- spec.promoted: its walk. -/
import Derived.Test.YtepeehjajhehfaaGreatDoorVs
import Derived.Test.YtepeehjajhehfaaGreatDoorStr
namespace Go.Proofs.YtepeehjajhehfaaGreatDoor
open Go.RowKit Go.PlainAid
set_option linter.unusedVariables false

theorem prom_no {h : Hd} (h0 : ¬ h.ty = 0) : h.prom = h := by
  unfold Hd.prom
  rw [if_neg h0]
theorem prom_sl {h : Hd} (h0 : h.ty = 0) (hs : slB h.name = true) : h.prom.cells = h.cells.set 0 (.int .u8 53) := by unfold Hd.prom Hd.cells; rw [if_pos h0, if_pos hs]; rfl
theorem prom_ns {h : Hd} (h0 : h.ty = 0) (hs : slB h.name = false) : h.prom.cells = h.cells.set 0 (.int .u8 48) := by unfold Hd.prom Hd.cells; rw [if_pos h0, if_neg (by rw [hs]; decide)]; rfl
theorem Hd.one_ (h : Hd) : h.arr.all (·.oneCell') = true := by simp [Hd.arr, Hd.cells, Value.oneCell']
def hd0 : Hd := ⟨0, ⟨#[]⟩, ⟨#[]⟩, 0, 0, 0, 0, ⟨#[]⟩, ⟨#[]⟩, 0, 0, false, false, 0, 0, 0, 0, 0, 0, none, 0, 0, 0⟩
theorem second_blk' (w : World) (o : Obj) (T : TypeId) (xs : List Value) : Blk ((w.alloc o).alloc (.cells xs.toArray T)) (w.heap.size + 1) T xs := by
  have h := Blk.new (w.alloc o) T xs
  have e : (w.alloc o).heap.size = w.heap.size + 1 := by simp
  rwa [e] at h
theorem two_al' (w : World) (o1 o2 : Obj) : Below w.heap.size w ((w.alloc o1).alloc o2) := ((Below.refl _ w).alloc (Nat.le_refl _) _).alloc (by simp) _
set_option maxRecDepth 20000 in
set_option maxHeartbeats 1600000 in
theorem specProm (h : Hd) (w : World) (hs : h.name.size ≤ 4611686018427387904) :
    Calls Tryz.prog 18 #[h.val] w fun e w' => e = .returned h.prom.val ∧ Below w.heap.size w w' := by
  have HSL := fun w => Lib.hid (specSlashed h.name w hs)
  obtain ⟨s, hsl⟩ : ∃ s, slB h.name = s := ⟨_, rfl⟩
  rw [hsl] at HSL
  have HA0 : Hid (Blk ((w.alloc (.cells h.arr 32)).alloc (.cells #[.int .u8 0, .string { data := #[] }, .string { data := #[] }, .int .i64 0, .int .i64 0, .int .i64 0, .int .i64 0, .string { data := #[] }, .string { data := #[] }, .int .i64 0, .int .i64 0, .bool false, .bool false, .int .i64 0, .int .i64 0, .int .i64 0, .int .i64 0, .int .i64 0, .int .i64 0, .slice none 0 0, .int .i64 0] 32)) w.heap.size 32 h.cells) := Lib.hid ((h.blk w _).alloc _)
  have HR0 : Hid (Blk ((w.alloc (.cells h.arr 32)).alloc (.cells #[.int .u8 0, .string { data := #[] }, .string { data := #[] }, .int .i64 0, .int .i64 0, .int .i64 0, .int .i64 0, .string { data := #[] }, .string { data := #[] }, .int .i64 0, .int .i64 0, .bool false, .bool false, .int .i64 0, .int .i64 0, .int .i64 0, .int .i64 0, .int .i64 0, .int .i64 0, .slice none 0 0, .int .i64 0] 32)) (w.heap.size + 1) 32 hd0.cells) := Lib.hid (second_blk' w _ _ hd0.cells)
  have HW0 : Hid (Below w.heap.size w ((w.alloc (.cells h.arr 32)).alloc (.cells #[.int .u8 0, .string { data := #[] }, .string { data := #[] }, .int .i64 0, .int .i64 0, .int .i64 0, .int .i64 0, .string { data := #[] }, .string { data := #[] }, .int .i64 0, .int .i64 0, .bool false, .bool false, .int .i64 0, .int .i64 0, .int .i64 0, .int .i64 0, .int .i64 0, .int .i64 0, .slice none 0 0, .int .i64 0] 32))) := Lib.hid (two_al' w _ _)
  have HSS := Lib.hid hsl
  clear hsl
  by_cases h0 : h.ty = 0
  · have H0 := Lib.hid h0
    unfold Hd.val
    go_enter Tryz.func18, Tryz.ntmps18
    go_upto_region 1 with fail
    generalize (w.alloc (.cells h.arr 32)).alloc (.cells #[.int .u8 0, .string { data := #[] }, .string { data := #[] }, .int .i64 0, .int .i64 0, .int .i64 0, .int .i64 0, .string { data := #[] }, .string { data := #[] }, .int .i64 0, .int .i64 0, .bool false, .bool false, .int .i64 0, .int .i64 0, .int .i64 0, .int .i64 0, .int .i64 0, .int .i64 0, .slice none 0 0, .int .i64 0] 32) = w1 at HA0 HR0 HW0 ⊢
    have k0 : w1.cell? ⟨w.heap.size, 0, none⟩ = some (.int .u8 0) := by rw [← h0]; exact HA0.out.cell 0
    have k1 : w1.cell? ⟨w.heap.size, 1, none⟩ = some (.string h.name) := HA0.out.cell 1
    have f0 := HA0.out.frozen 0
    have HRX := Lib.hid (HR0.out.far (p := ⟨w.heap.size, 0, none⟩) (by show w.heap.size + 1 ≠ w.heap.size; omega) (.int .u8 48))
    have HWX := Lib.hid (HW0.out.setCell (p := ⟨w.heap.size, 0, none⟩) (Nat.le_refl _) (.int .u8 48))
    have HAX := Lib.hid (HA0.out.set_ 0 (.int .u8 48))
    clear h0
    cases s with
    | false =>
      have HAP : Hid (Blk (w1.setCell ⟨w.heap.size, 0, none⟩ (.int .u8 48)) w.heap.size 32 h.prom.cells) := Lib.hid (by rw [prom_ns H0.out HSS.out]; exact HAX.out)
      go_wp2_with (first
      | (go_at_call 19; refine (HSL _).out.mono ?_; rintro e w' ⟨rfl, rfl⟩)
      | (refine wpList_load_row (o := ⟨some 11, _, _, _, _, _⟩) rfl 32 (.tmp 1) rfl w.heap.size rfl 32 h.prom.arr (0, 0) _ HAP.out Tryz.underlying32 rfl h.prom.size_ ?_)
      | (refine wpList_store_row (o := ⟨none, _, _, _, _, _⟩) rfl 32 (.tmp 2) (.tmp 11) rfl (w.heap.size + 1) h.prom.arr rfl rfl 32 hd0.arr HRX.out h.prom.size_ rfl h.prom.one_ ?_))
      refine bodyPost_ret (results_cell_row rfl _ _ (w.heap.size + 1) 32 h.prom.arr (0, 0) _ rfl (setRow_blk _ _ _ hd0.cells h.prom.cells HRX.out) Tryz.underlying32 rfl h.prom.size_) rfl ?_
      exact ⟨rfl, HWX.out.grown (setRow_grown _ _ _) (Nat.le_trans (Nat.le_refl _) HWX.out.size) (fun q hq => by cases hq; exact Nat.le_succ _)⟩
    | true =>
      have HRX2 := Lib.hid (HRX.out.far (p := ⟨w.heap.size, 0, none⟩) (by show w.heap.size + 1 ≠ w.heap.size; omega) (.int .u8 53))
      have HWX2 := Lib.hid (HWX.out.setCell (p := ⟨w.heap.size, 0, none⟩) (Nat.le_refl _) (.int .u8 53))
      have HAP : Hid (Blk ((w1.setCell ⟨w.heap.size, 0, none⟩ (.int .u8 48)).setCell ⟨w.heap.size, 0, none⟩ (.int .u8 53)) w.heap.size 32 h.prom.cells) := Lib.hid (by
        rw [prom_sl H0.out HSS.out]
        have h2 := HAX.out.set_ 0 (.int .u8 53)
        rwa [List.set_set] at h2)
      go_wp2_with (first
      | (go_at_call 19; refine (HSL _).out.mono ?_; rintro e w' ⟨rfl, rfl⟩)
      | (refine wpList_load_row (o := ⟨some 11, _, _, _, _, _⟩) rfl 32 (.tmp 1) rfl w.heap.size rfl 32 h.prom.arr (0, 0) _ HAP.out Tryz.underlying32 rfl h.prom.size_ ?_)
      | (refine wpList_store_row (o := ⟨none, _, _, _, _, _⟩) rfl 32 (.tmp 2) (.tmp 11) rfl (w.heap.size + 1) h.prom.arr rfl rfl 32 hd0.arr HRX2.out h.prom.size_ rfl h.prom.one_ ?_))
      refine bodyPost_ret (results_cell_row rfl _ _ (w.heap.size + 1) 32 h.prom.arr (0, 0) _ rfl (setRow_blk _ _ _ hd0.cells h.prom.cells HRX2.out) Tryz.underlying32 rfl h.prom.size_) rfl ?_
      exact ⟨rfl, HWX2.out.grown (setRow_grown _ _ _) (Nat.le_trans (Nat.le_refl _) HWX2.out.size) (fun q hq => by cases hq; exact Nat.le_succ _)⟩
  · rw [prom_no h0]
    have h0' : (h.ty == 0) = false := by simpa using h0
    unfold Hd.val
    go_enter Tryz.func18, Tryz.ntmps18
    go_upto_region 1 with fail
    generalize (w.alloc (.cells h.arr 32)).alloc (.cells #[.int .u8 0, .string { data := #[] }, .string { data := #[] }, .int .i64 0, .int .i64 0, .int .i64 0, .int .i64 0, .string { data := #[] }, .string { data := #[] }, .int .i64 0, .int .i64 0, .bool false, .bool false, .int .i64 0, .int .i64 0, .int .i64 0, .int .i64 0, .int .i64 0, .int .i64 0, .slice none 0 0, .int .i64 0] 32) = w1 at HA0 HR0 HW0 ⊢
    have k0 : w1.cell? ⟨w.heap.size, 0, none⟩ = some (.int .u8 h.ty) := HA0.out.cell 0
    go_wp2_with (first
      | (refine wpList_load_row (o := ⟨some 11, _, _, _, _, _⟩) rfl 32 (.tmp 1) rfl w.heap.size rfl 32 h.arr (0, 0) _ HA0.out Tryz.underlying32 rfl h.size_ ?_)
      | (refine wpList_store_row (o := ⟨none, _, _, _, _, _⟩) rfl 32 (.tmp 2) (.tmp 11) rfl (w.heap.size + 1) h.arr rfl rfl 32 hd0.arr HR0.out h.size_ rfl h.one_ ?_))
    refine bodyPost_ret (results_cell_row rfl _ _ (w.heap.size + 1) 32 h.arr (0, 0) _ rfl (setRow_blk _ _ _ hd0.cells h.cells HR0.out) Tryz.underlying32 rfl h.size_) rfl ?_
    exact ⟨rfl, HW0.out.grown (setRow_grown _ _ _) (Nat.le_trans (Nat.le_refl _) HW0.out.size) (fun q hq => by cases hq; exact Nat.le_succ _)⟩
end Go.Proofs.YtepeehjajhehfaaGreatDoor
