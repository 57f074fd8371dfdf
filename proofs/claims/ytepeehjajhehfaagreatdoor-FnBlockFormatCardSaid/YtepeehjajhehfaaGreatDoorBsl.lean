/- A slice literal of five or six numbers, as one law: nothing of its making is left to be reckoned. -/
import Derived.Test.YtepeehjajhehfaaGreatDoorCanP
import Derived.Great.BuildSlice
namespace Go.Proofs.YtepeehjajhehfaaGreatDoor
open Go.RowKit Go.PlainAid
set_option linter.unusedVariables false

theorem int_size : (Tryz.prog.info? 3).map (·.size) = some 1 := by kernel_rfl
theorem int_zero : (Tryz.prog.info? 3).bind (·.zero) = some (.int .i64 0) := by kernel_rfl
theorem bs5 {o : Oper} {a : Act} {w : World} {K : Act → World → Prop} {Q : Exit → Act → World → Prop} (t0 t1 t2 t3 t4 : Operand) (ho : o.op = .buildSlice 27 5 #[(0, t0), (1, t1), (2, t2), (3, t3), (4, t4)]) (x0 x1 x2 x3 x4 : Int) (h0 : a.eval t0 = .int .i64 x0) (h1 : a.eval t1 = .int .i64 x1) (h2 : a.eval t2 = .int .i64 x2) (h3 : a.eval t3 = .int .i64 x3) (h4 : a.eval t4 = .int .i64 x4)
    (h : K (a.put o.dst (.slice (some ⟨w.heap.size, 0, none⟩) 5 5)) (w.alloc (.cells #[.int .i64 x0, .int .i64 x1, .int .i64 x2, .int .i64 x3, .int .i64 x4] 3))) : o.wp Tryz.prog a w K Q := by
  cases hie : Tryz.prog.info? 3 with
  | none => have e := int_size; rw [hie] at e; cases e
  | some ie =>
    have e1 := int_size
    have e2 := int_zero
    rw [hie] at e1 e2
    have hs : ie.size = 1 := by simpa using e1
    have hz : ie.zero = some (.int .i64 0) := by simpa using e2
    refine wp_buildSlice 27 3 5 _ ho _ ie (.int .i64 0) Tryz.underlying27 hie hz (by rw [hs]; decide) (by rw [hs]; decide) ?_ h
    rw [hs]
    have e : (#[(0, t0), (1, t1), (2, t2), (3, t3), (4, t4)].map fun (i, x) => (i, a.eval x)).toList = [(0, Value.int .i64 x0), (1, Value.int .i64 x1), (2, Value.int .i64 x2), (3, Value.int .i64 x3), (4, Value.int .i64 x4)] := by
      simp [h0, h1, h2, h3, h4]
    rw [e]

    have key : Instr.fill (fun i => some (i * 1, 1)) ((Array.range (5 * 1)).map ((Value.int .i64 0).cells[· % (Value.int .i64 0).cells.size]!)) [(0, Value.int .i64 x0), (1, Value.int .i64 x1), (2, Value.int .i64 x2), (3, Value.int .i64 x3), (4, Value.int .i64 x4)] = some #[.int .i64 x0, .int .i64 x1, .int .i64 x2, .int .i64 x3, .int .i64 x4] := by kernel_rfl
    exact key
theorem bs6 {o : Oper} {a : Act} {w : World} {K : Act → World → Prop} {Q : Exit → Act → World → Prop} (t0 t1 t2 t3 t4 t5 : Operand) (ho : o.op = .buildSlice 27 6 #[(0, t0), (1, t1), (2, t2), (3, t3), (4, t4), (5, t5)]) (x0 x1 x2 x3 x4 x5 : Int) (h0 : a.eval t0 = .int .i64 x0) (h1 : a.eval t1 = .int .i64 x1) (h2 : a.eval t2 = .int .i64 x2) (h3 : a.eval t3 = .int .i64 x3) (h4 : a.eval t4 = .int .i64 x4) (h5 : a.eval t5 = .int .i64 x5)
    (h : K (a.put o.dst (.slice (some ⟨w.heap.size, 0, none⟩) 6 6)) (w.alloc (.cells #[.int .i64 x0, .int .i64 x1, .int .i64 x2, .int .i64 x3, .int .i64 x4, .int .i64 x5] 3))) : o.wp Tryz.prog a w K Q := by
  cases hie : Tryz.prog.info? 3 with
  | none => have e := int_size; rw [hie] at e; cases e
  | some ie =>
    have e1 := int_size
    have e2 := int_zero
    rw [hie] at e1 e2
    have hs : ie.size = 1 := by simpa using e1
    have hz : ie.zero = some (.int .i64 0) := by simpa using e2
    refine wp_buildSlice 27 3 6 _ ho _ ie (.int .i64 0) Tryz.underlying27 hie hz (by rw [hs]; decide) (by rw [hs]; decide) ?_ h
    rw [hs]
    have e : (#[(0, t0), (1, t1), (2, t2), (3, t3), (4, t4), (5, t5)].map fun (i, x) => (i, a.eval x)).toList = [(0, Value.int .i64 x0), (1, Value.int .i64 x1), (2, Value.int .i64 x2), (3, Value.int .i64 x3), (4, Value.int .i64 x4), (5, Value.int .i64 x5)] := by
      simp [h0, h1, h2, h3, h4, h5]
    rw [e]

    have key : Instr.fill (fun i => some (i * 1, 1)) ((Array.range (6 * 1)).map ((Value.int .i64 0).cells[· % (Value.int .i64 0).cells.size]!)) [(0, Value.int .i64 x0), (1, Value.int .i64 x1), (2, Value.int .i64 x2), (3, Value.int .i64 x3), (4, Value.int .i64 x4), (5, Value.int .i64 x5)] = some #[.int .i64 x0, .int .i64 x1, .int .i64 x2, .int .i64 x3, .int .i64 x4, .int .i64 x5] := by kernel_rfl
    exact key
end Go.Proofs.YtepeehjajhehfaaGreatDoor
