/- headerEqual of two headers whose modification times differ. -/
import Derived.Test.YtepeehjajhehfaaGreatDoorMA4
import Derived.Test.YtepeehjajhehfaaGreatDoorMA2
namespace Go.Proofs.YtepeehjajhehfaaGreatDoor
open Go.RowKit Go.PlainAid
set_option linter.unusedVariables false

set_option maxRecDepth 20000 in
set_option maxHeartbeats 16000000 in
theorem headerEq (X Y : Array Value) (t : Int) (nm x2 x7 x8 y2 y7 y8 : ByteArray) (x3 x4 x5 x6 x9 x10 x11 x12 x13 x14 x15 x16 x19 y3 y4 y5 y6 y9 y10 y11 y12 y13 y14 y15 y16 y19 : Int) (x17 x18 y17 y18 : Option Nat) (w : World)
    (hX : X = #[.int .u8 t, .string nm, .string x2, .int .i64 x3, .int .i64 x4, .int .i64 x5, .int .i64 x6, .string x7, .string x8, .int .u64 x9, .int .i64 x10, .int .u64 x11, .int .i64 x12, .int .u64 x13, .int .i64 x14, .int .i64 x15, .int .i64 x16, .map x17, .map x18, .int .i64 x19]) (hY : Y = #[.int .u8 t, .string nm, .string y2, .int .i64 y3, .int .i64 y4, .int .i64 y5, .int .i64 y6, .string y7, .string y8, .int .u64 y9, .int .i64 y10, .int .u64 y11, .int .i64 y12, .int .u64 y13, .int .i64 y14, .int .i64 y15, .int .i64 y16, .map y17, .map y18, .int .i64 y19])
    (hne : ¬ (x9 = y9 ∧ x10 = y10)) :
    Calls Tryz.prog 100 #[.agg X, .agg Y] w fun e w' => e = .returned (.bool false) ∧ Below w.heap.size w w' := by
  have HA : Hid (Blk ((w.alloc (.cells X 75)).alloc (.cells Y 75)) w.heap.size 75 [.int .u8 t, .string nm, .string x2, .int .i64 x3, .int .i64 x4, .int .i64 x5, .int .i64 x6, .string x7, .string x8, .int .u64 x9, .int .i64 x10, .int .u64 x11, .int .i64 x12, .int .u64 x13, .int .i64 x14, .int .i64 x15, .int .i64 x16, .map x17, .map x18, .int .i64 x19]) := Lib.hid (by rw [hX]; exact (Blk.new w _ [.int .u8 t, .string nm, .string x2, .int .i64 x3, .int .i64 x4, .int .i64 x5, .int .i64 x6, .string x7, .string x8, .int .u64 x9, .int .i64 x10, .int .u64 x11, .int .i64 x12, .int .u64 x13, .int .i64 x14, .int .i64 x15, .int .i64 x16, .map x17, .map x18, .int .i64 x19]).alloc _)
  have HB : Hid (Blk ((w.alloc (.cells X 75)).alloc (.cells Y 75)) (w.heap.size + 1) 75 [.int .u8 t, .string nm, .string y2, .int .i64 y3, .int .i64 y4, .int .i64 y5, .int .i64 y6, .string y7, .string y8, .int .u64 y9, .int .i64 y10, .int .u64 y11, .int .i64 y12, .int .u64 y13, .int .i64 y14, .int .i64 y15, .int .i64 y16, .map y17, .map y18, .int .i64 y19]) := Lib.hid (by rw [hY]; exact second_blk' w _ _ [.int .u8 t, .string nm, .string y2, .int .i64 y3, .int .i64 y4, .int .i64 y5, .int .i64 y6, .string y7, .string y8, .int .u64 y9, .int .i64 y10, .int .u64 y11, .int .i64 y12, .int .u64 y13, .int .i64 y14, .int .i64 y15, .int .i64 y16, .map y17, .map y18, .int .i64 y19])
  have HW : Hid (Below w.heap.size w ((w.alloc (.cells X 75)).alloc (.cells Y 75))) := Lib.hid (two_al' w _ _)
  have a0 : ((w.alloc (.cells X 75)).alloc (.cells Y 75)).cell? ⟨w.heap.size, 0, none⟩ = some (.int .u8 t) := HA.out.cell 0
  have b0 : ((w.alloc (.cells X 75)).alloc (.cells Y 75)).cell? ⟨w.heap.size + 1, 0, none⟩ = some (.int .u8 t) := HB.out.cell 0
  have a1 : ((w.alloc (.cells X 75)).alloc (.cells Y 75)).cell? ⟨w.heap.size, 1, none⟩ = some (.string nm) := HA.out.cell 1
  have b1 : ((w.alloc (.cells X 75)).alloc (.cells Y 75)).cell? ⟨w.heap.size + 1, 1, none⟩ = some (.string nm) := HB.out.cell 1
  have a2 : ((w.alloc (.cells X 75)).alloc (.cells Y 75)).cell? ⟨w.heap.size, 2, none⟩ = some (.string x2) := HA.out.cell 2
  have b2 : ((w.alloc (.cells X 75)).alloc (.cells Y 75)).cell? ⟨w.heap.size + 1, 2, none⟩ = some (.string y2) := HB.out.cell 2
  have a3 : ((w.alloc (.cells X 75)).alloc (.cells Y 75)).cell? ⟨w.heap.size, 3, none⟩ = some (.int .i64 x3) := HA.out.cell 3
  have b3 : ((w.alloc (.cells X 75)).alloc (.cells Y 75)).cell? ⟨w.heap.size + 1, 3, none⟩ = some (.int .i64 y3) := HB.out.cell 3
  have a4 : ((w.alloc (.cells X 75)).alloc (.cells Y 75)).cell? ⟨w.heap.size, 4, none⟩ = some (.int .i64 x4) := HA.out.cell 4
  have b4 : ((w.alloc (.cells X 75)).alloc (.cells Y 75)).cell? ⟨w.heap.size + 1, 4, none⟩ = some (.int .i64 y4) := HB.out.cell 4
  have a5 : ((w.alloc (.cells X 75)).alloc (.cells Y 75)).cell? ⟨w.heap.size, 5, none⟩ = some (.int .i64 x5) := HA.out.cell 5
  have b5 : ((w.alloc (.cells X 75)).alloc (.cells Y 75)).cell? ⟨w.heap.size + 1, 5, none⟩ = some (.int .i64 y5) := HB.out.cell 5
  have a6 : ((w.alloc (.cells X 75)).alloc (.cells Y 75)).cell? ⟨w.heap.size, 6, none⟩ = some (.int .i64 x6) := HA.out.cell 6
  have b6 : ((w.alloc (.cells X 75)).alloc (.cells Y 75)).cell? ⟨w.heap.size + 1, 6, none⟩ = some (.int .i64 y6) := HB.out.cell 6
  have a7 : ((w.alloc (.cells X 75)).alloc (.cells Y 75)).cell? ⟨w.heap.size, 7, none⟩ = some (.string x7) := HA.out.cell 7
  have b7 : ((w.alloc (.cells X 75)).alloc (.cells Y 75)).cell? ⟨w.heap.size + 1, 7, none⟩ = some (.string y7) := HB.out.cell 7
  have a8 : ((w.alloc (.cells X 75)).alloc (.cells Y 75)).cell? ⟨w.heap.size, 8, none⟩ = some (.string x8) := HA.out.cell 8
  have b8 : ((w.alloc (.cells X 75)).alloc (.cells Y 75)).cell? ⟨w.heap.size + 1, 8, none⟩ = some (.string y8) := HB.out.cell 8
  have a9 : ((w.alloc (.cells X 75)).alloc (.cells Y 75)).cell? ⟨w.heap.size, 9, none⟩ = some (.int .u64 x9) := HA.out.cell 9
  have b9 : ((w.alloc (.cells X 75)).alloc (.cells Y 75)).cell? ⟨w.heap.size + 1, 9, none⟩ = some (.int .u64 y9) := HB.out.cell 9
  have a10 : ((w.alloc (.cells X 75)).alloc (.cells Y 75)).cell? ⟨w.heap.size, 10, none⟩ = some (.int .i64 x10) := HA.out.cell 10
  have b10 : ((w.alloc (.cells X 75)).alloc (.cells Y 75)).cell? ⟨w.heap.size + 1, 10, none⟩ = some (.int .i64 y10) := HB.out.cell 10
  have a11 : ((w.alloc (.cells X 75)).alloc (.cells Y 75)).cell? ⟨w.heap.size, 11, none⟩ = some (.int .u64 x11) := HA.out.cell 11
  have b11 : ((w.alloc (.cells X 75)).alloc (.cells Y 75)).cell? ⟨w.heap.size + 1, 11, none⟩ = some (.int .u64 y11) := HB.out.cell 11
  have a12 : ((w.alloc (.cells X 75)).alloc (.cells Y 75)).cell? ⟨w.heap.size, 12, none⟩ = some (.int .i64 x12) := HA.out.cell 12
  have b12 : ((w.alloc (.cells X 75)).alloc (.cells Y 75)).cell? ⟨w.heap.size + 1, 12, none⟩ = some (.int .i64 y12) := HB.out.cell 12
  have a13 : ((w.alloc (.cells X 75)).alloc (.cells Y 75)).cell? ⟨w.heap.size, 13, none⟩ = some (.int .u64 x13) := HA.out.cell 13
  have b13 : ((w.alloc (.cells X 75)).alloc (.cells Y 75)).cell? ⟨w.heap.size + 1, 13, none⟩ = some (.int .u64 y13) := HB.out.cell 13
  have a14 : ((w.alloc (.cells X 75)).alloc (.cells Y 75)).cell? ⟨w.heap.size, 14, none⟩ = some (.int .i64 x14) := HA.out.cell 14
  have b14 : ((w.alloc (.cells X 75)).alloc (.cells Y 75)).cell? ⟨w.heap.size + 1, 14, none⟩ = some (.int .i64 y14) := HB.out.cell 14
  have a15 : ((w.alloc (.cells X 75)).alloc (.cells Y 75)).cell? ⟨w.heap.size, 15, none⟩ = some (.int .i64 x15) := HA.out.cell 15
  have b15 : ((w.alloc (.cells X 75)).alloc (.cells Y 75)).cell? ⟨w.heap.size + 1, 15, none⟩ = some (.int .i64 y15) := HB.out.cell 15
  have a16 : ((w.alloc (.cells X 75)).alloc (.cells Y 75)).cell? ⟨w.heap.size, 16, none⟩ = some (.int .i64 x16) := HA.out.cell 16
  have b16 : ((w.alloc (.cells X 75)).alloc (.cells Y 75)).cell? ⟨w.heap.size + 1, 16, none⟩ = some (.int .i64 y16) := HB.out.cell 16
  have a19 : ((w.alloc (.cells X 75)).alloc (.cells Y 75)).cell? ⟨w.heap.size, 19, none⟩ = some (.int .i64 x19) := HA.out.cell 19
  have b19 : ((w.alloc (.cells X 75)).alloc (.cells Y 75)).cell? ⟨w.heap.size + 1, 19, none⟩ = some (.int .i64 y19) := HB.out.cell 19
  clear HA HB hX hY
  obtain ⟨r9, h9⟩ : ∃ r, (x9 == y9) = r := ⟨_, rfl⟩
  obtain ⟨r10, h10⟩ : ∃ r, (x10 == y10) = r := ⟨_, rfl⟩
  have HNE : Hid ((r9 && r10) = false) := Lib.hid (by rw [← h9, ← h10, Bool.and_eq_false_iff, beq_eq_false_iff_ne, beq_eq_false_iff_ne]; by_cases e : x9 = y9 <;> simp_all)
  clear hne
  obtain ⟨r2, h2⟩ : ∃ r, (x2.toList == y2.toList) = r := ⟨_, rfl⟩
  obtain ⟨r3, h3⟩ : ∃ r, (x3 == y3) = r := ⟨_, rfl⟩
  obtain ⟨r4, h4⟩ : ∃ r, (x4 == y4) = r := ⟨_, rfl⟩
  obtain ⟨r5, h5⟩ : ∃ r, (x5 == y5) = r := ⟨_, rfl⟩
  obtain ⟨r6, h6⟩ : ∃ r, (x6 == y6) = r := ⟨_, rfl⟩
  obtain ⟨r7, h7⟩ : ∃ r, (x7.toList == y7.toList) = r := ⟨_, rfl⟩
  obtain ⟨r8, h8⟩ : ∃ r, (x8.toList == y8.toList) = r := ⟨_, rfl⟩
  cases r2 with
  | false =>
      go_enter Tryz.func100, Tryz.ntmps100
      go_wp2
      go_ret
      exact ⟨rfl, HW.out⟩
  | true =>
    cases r3 with
    | false =>
        go_enter Tryz.func100, Tryz.ntmps100
        go_wp2
        go_ret
        exact ⟨rfl, HW.out⟩
    | true =>
      cases r4 with
      | false =>
          go_enter Tryz.func100, Tryz.ntmps100
          go_wp2
          go_ret
          exact ⟨rfl, HW.out⟩
      | true =>
        cases r5 with
        | false =>
            go_enter Tryz.func100, Tryz.ntmps100
            go_wp2
            go_ret
            exact ⟨rfl, HW.out⟩
        | true =>
          cases r6 with
          | false =>
              go_enter Tryz.func100, Tryz.ntmps100
              go_wp2
              go_ret
              exact ⟨rfl, HW.out⟩
          | true =>
            cases r7 with
            | false =>
                go_enter Tryz.func100, Tryz.ntmps100
                go_wp2
                go_ret
                exact ⟨rfl, HW.out⟩
            | true =>
              cases r8 with
              | false =>
                  go_enter Tryz.func100, Tryz.ntmps100
                  go_wp2
                  go_ret
                  exact ⟨rfl, HW.out⟩
              | true =>
                cases r9 with
                | false =>
                    go_enter Tryz.func100, Tryz.ntmps100
                    go_wp2
                    go_ret
                    exact ⟨rfl, HW.out⟩
                | true =>
                  cases r10 with
                  | false =>
                      go_enter Tryz.func100, Tryz.ntmps100
                      go_wp2
                      go_ret
                      exact ⟨rfl, HW.out⟩
                  | true => exact absurd HNE.out (by decide)
end Go.Proofs.YtepeehjajhehfaaGreatDoor
