/- spec.Same of headers that differ in their records and formats alone. -/
import Derived.Test.YtepeehjajhehfaaGreatDoorMA2
namespace Go.Proofs.YtepeehjajhehfaaGreatDoor
open Go.RowKit Go.PlainAid
set_option linter.unusedVariables false

/-- The same header with other records and another format. -/
def Hd.wr (h : Hd) (A : Option Addr) (n c : Nat) (f : Int) : Hd := { h with rA := A, rn := n, rc := c, fm := f }
set_option maxRecDepth 20000 in
set_option maxHeartbeats 4000000 in
theorem specSame (h : Hd) (A : Option Addr) (n c : Nat) (f : Int) (w : World) :
    Calls Tryz.prog 14 #[(h.wr A n c f).val, h.val] w fun e w' => e = .returned (.bool true) ∧ Below w.heap.size w w' := by
  have HA : Hid (Blk ((w.alloc (.cells (h.wr A n c f).arr 32)).alloc (.cells h.arr 32)) w.heap.size 32 (h.wr A n c f).cells) := Lib.hid (((h.wr A n c f).blk w _).alloc _)
  have HB : Hid (Blk ((w.alloc (.cells (h.wr A n c f).arr 32)).alloc (.cells h.arr 32)) (w.heap.size + 1) 32 h.cells) := Lib.hid (second_blk' w _ _ h.cells)
  have HW : Hid (Below w.heap.size w ((w.alloc (.cells (h.wr A n c f).arr 32)).alloc (.cells h.arr 32))) := Lib.hid (two_al' w _ _)
  have a0 : ((w.alloc (.cells (h.wr A n c f).arr 32)).alloc (.cells h.arr 32)).cell? ⟨w.heap.size, 0, none⟩ = some (.int .u8 h.ty) := HA.out.cell 0
  have b0 : ((w.alloc (.cells (h.wr A n c f).arr 32)).alloc (.cells h.arr 32)).cell? ⟨w.heap.size + 1, 0, none⟩ = some (.int .u8 h.ty) := HB.out.cell 0
  have a1 : ((w.alloc (.cells (h.wr A n c f).arr 32)).alloc (.cells h.arr 32)).cell? ⟨w.heap.size, 1, none⟩ = some (.string h.name) := HA.out.cell 1
  have b1 : ((w.alloc (.cells (h.wr A n c f).arr 32)).alloc (.cells h.arr 32)).cell? ⟨w.heap.size + 1, 1, none⟩ = some (.string h.name) := HB.out.cell 1
  have a2 : ((w.alloc (.cells (h.wr A n c f).arr 32)).alloc (.cells h.arr 32)).cell? ⟨w.heap.size, 2, none⟩ = some (.string h.link) := HA.out.cell 2
  have b2 : ((w.alloc (.cells (h.wr A n c f).arr 32)).alloc (.cells h.arr 32)).cell? ⟨w.heap.size + 1, 2, none⟩ = some (.string h.link) := HB.out.cell 2
  have a3 : ((w.alloc (.cells (h.wr A n c f).arr 32)).alloc (.cells h.arr 32)).cell? ⟨w.heap.size, 3, none⟩ = some (.int .i64 h.size) := HA.out.cell 3
  have b3 : ((w.alloc (.cells (h.wr A n c f).arr 32)).alloc (.cells h.arr 32)).cell? ⟨w.heap.size + 1, 3, none⟩ = some (.int .i64 h.size) := HB.out.cell 3
  have a4 : ((w.alloc (.cells (h.wr A n c f).arr 32)).alloc (.cells h.arr 32)).cell? ⟨w.heap.size, 4, none⟩ = some (.int .i64 h.mode) := HA.out.cell 4
  have b4 : ((w.alloc (.cells (h.wr A n c f).arr 32)).alloc (.cells h.arr 32)).cell? ⟨w.heap.size + 1, 4, none⟩ = some (.int .i64 h.mode) := HB.out.cell 4
  have a5 : ((w.alloc (.cells (h.wr A n c f).arr 32)).alloc (.cells h.arr 32)).cell? ⟨w.heap.size, 5, none⟩ = some (.int .i64 h.uid) := HA.out.cell 5
  have b5 : ((w.alloc (.cells (h.wr A n c f).arr 32)).alloc (.cells h.arr 32)).cell? ⟨w.heap.size + 1, 5, none⟩ = some (.int .i64 h.uid) := HB.out.cell 5
  have a6 : ((w.alloc (.cells (h.wr A n c f).arr 32)).alloc (.cells h.arr 32)).cell? ⟨w.heap.size, 6, none⟩ = some (.int .i64 h.gid) := HA.out.cell 6
  have b6 : ((w.alloc (.cells (h.wr A n c f).arr 32)).alloc (.cells h.arr 32)).cell? ⟨w.heap.size + 1, 6, none⟩ = some (.int .i64 h.gid) := HB.out.cell 6
  have a7 : ((w.alloc (.cells (h.wr A n c f).arr 32)).alloc (.cells h.arr 32)).cell? ⟨w.heap.size, 7, none⟩ = some (.string h.un) := HA.out.cell 7
  have b7 : ((w.alloc (.cells (h.wr A n c f).arr 32)).alloc (.cells h.arr 32)).cell? ⟨w.heap.size + 1, 7, none⟩ = some (.string h.un) := HB.out.cell 7
  have a8 : ((w.alloc (.cells (h.wr A n c f).arr 32)).alloc (.cells h.arr 32)).cell? ⟨w.heap.size, 8, none⟩ = some (.string h.gn) := HA.out.cell 8
  have b8 : ((w.alloc (.cells (h.wr A n c f).arr 32)).alloc (.cells h.arr 32)).cell? ⟨w.heap.size + 1, 8, none⟩ = some (.string h.gn) := HB.out.cell 8
  have a9 : ((w.alloc (.cells (h.wr A n c f).arr 32)).alloc (.cells h.arr 32)).cell? ⟨w.heap.size, 9, none⟩ = some (.int .i64 h.ms) := HA.out.cell 9
  have b9 : ((w.alloc (.cells (h.wr A n c f).arr 32)).alloc (.cells h.arr 32)).cell? ⟨w.heap.size + 1, 9, none⟩ = some (.int .i64 h.ms) := HB.out.cell 9
  have a10 : ((w.alloc (.cells (h.wr A n c f).arr 32)).alloc (.cells h.arr 32)).cell? ⟨w.heap.size, 10, none⟩ = some (.int .i64 h.mn) := HA.out.cell 10
  have b10 : ((w.alloc (.cells (h.wr A n c f).arr 32)).alloc (.cells h.arr 32)).cell? ⟨w.heap.size + 1, 10, none⟩ = some (.int .i64 h.mn) := HB.out.cell 10
  have a11 : ((w.alloc (.cells (h.wr A n c f).arr 32)).alloc (.cells h.arr 32)).cell? ⟨w.heap.size, 11, none⟩ = some (.bool h.ha) := HA.out.cell 11
  have b11 : ((w.alloc (.cells (h.wr A n c f).arr 32)).alloc (.cells h.arr 32)).cell? ⟨w.heap.size + 1, 11, none⟩ = some (.bool h.ha) := HB.out.cell 11
  have a12 : ((w.alloc (.cells (h.wr A n c f).arr 32)).alloc (.cells h.arr 32)).cell? ⟨w.heap.size, 12, none⟩ = some (.bool h.hc) := HA.out.cell 12
  have b12 : ((w.alloc (.cells (h.wr A n c f).arr 32)).alloc (.cells h.arr 32)).cell? ⟨w.heap.size + 1, 12, none⟩ = some (.bool h.hc) := HB.out.cell 12
  have a13 : ((w.alloc (.cells (h.wr A n c f).arr 32)).alloc (.cells h.arr 32)).cell? ⟨w.heap.size, 13, none⟩ = some (.int .i64 h.as_) := HA.out.cell 13
  have b13 : ((w.alloc (.cells (h.wr A n c f).arr 32)).alloc (.cells h.arr 32)).cell? ⟨w.heap.size + 1, 13, none⟩ = some (.int .i64 h.as_) := HB.out.cell 13
  have a14 : ((w.alloc (.cells (h.wr A n c f).arr 32)).alloc (.cells h.arr 32)).cell? ⟨w.heap.size, 14, none⟩ = some (.int .i64 h.an) := HA.out.cell 14
  have b14 : ((w.alloc (.cells (h.wr A n c f).arr 32)).alloc (.cells h.arr 32)).cell? ⟨w.heap.size + 1, 14, none⟩ = some (.int .i64 h.an) := HB.out.cell 14
  have a15 : ((w.alloc (.cells (h.wr A n c f).arr 32)).alloc (.cells h.arr 32)).cell? ⟨w.heap.size, 15, none⟩ = some (.int .i64 h.cs) := HA.out.cell 15
  have b15 : ((w.alloc (.cells (h.wr A n c f).arr 32)).alloc (.cells h.arr 32)).cell? ⟨w.heap.size + 1, 15, none⟩ = some (.int .i64 h.cs) := HB.out.cell 15
  have a16 : ((w.alloc (.cells (h.wr A n c f).arr 32)).alloc (.cells h.arr 32)).cell? ⟨w.heap.size, 16, none⟩ = some (.int .i64 h.cn) := HA.out.cell 16
  have b16 : ((w.alloc (.cells (h.wr A n c f).arr 32)).alloc (.cells h.arr 32)).cell? ⟨w.heap.size + 1, 16, none⟩ = some (.int .i64 h.cn) := HB.out.cell 16
  have a17 : ((w.alloc (.cells (h.wr A n c f).arr 32)).alloc (.cells h.arr 32)).cell? ⟨w.heap.size, 17, none⟩ = some (.int .i64 h.maj) := HA.out.cell 17
  have b17 : ((w.alloc (.cells (h.wr A n c f).arr 32)).alloc (.cells h.arr 32)).cell? ⟨w.heap.size + 1, 17, none⟩ = some (.int .i64 h.maj) := HB.out.cell 17
  have a18 : ((w.alloc (.cells (h.wr A n c f).arr 32)).alloc (.cells h.arr 32)).cell? ⟨w.heap.size, 18, none⟩ = some (.int .i64 h.min) := HA.out.cell 18
  have b18 : ((w.alloc (.cells (h.wr A n c f).arr 32)).alloc (.cells h.arr 32)).cell? ⟨w.heap.size + 1, 18, none⟩ = some (.int .i64 h.min) := HB.out.cell 18
  unfold Hd.val
  generalize (h.wr A n c f).arr = X at a0 b0 a1 b1 a2 b2 a3 b3 a4 b4 a5 b5 a6 b6 a7 b7 a8 b8 a9 b9 a10 b10 a11 b11 a12 b12 a13 b13 a14 b14 a15 b15 a16 b16 a17 b17 a18 b18 HA HB HW ⊢
  generalize h.arr = Y at a0 b0 a1 b1 a2 b2 a3 b3 a4 b4 a5 b5 a6 b6 a7 b7 a8 b8 a9 b9 a10 b10 a11 b11 a12 b12 a13 b13 a14 b14 a15 b15 a16 b16 a17 b17 a18 b18 HA HB HW ⊢
  clear HA HB
  obtain ⟨xa, hxa⟩ : ∃ x, h.ha = x := ⟨_, rfl⟩
  obtain ⟨xc, hxc⟩ : ∃ x, h.hc = x := ⟨_, rfl⟩
  rw [hxa] at a11 b11
  rw [hxc] at a12 b12
  clear hxa hxc
  cases xa with
  | true =>
    cases xc with
    | true =>
      go_enter Tryz.func14, Tryz.ntmps14
      go_wp2
      go_ret
      exact ⟨rfl, HW.out⟩
    | false =>
      go_enter Tryz.func14, Tryz.ntmps14
      go_wp2
      go_ret
      exact ⟨rfl, HW.out⟩
  | false =>
    cases xc with
    | true =>
      go_enter Tryz.func14, Tryz.ntmps14
      go_wp2
      go_ret
      exact ⟨rfl, HW.out⟩
    | false =>
      go_enter Tryz.func14, Tryz.ntmps14
      go_wp2
      go_ret
      exact ⟨rfl, HW.out⟩
end Go.Proofs.YtepeehjajhehfaaGreatDoor
