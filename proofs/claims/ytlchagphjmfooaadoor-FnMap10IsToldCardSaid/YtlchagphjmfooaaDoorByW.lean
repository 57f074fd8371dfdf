/- The row that '[]byte(s)' lays. No condition. -/
import Derived.Test.YtlchagphjmfooaaDoorZer
import Derived.Lib.ConvBytes
import Derived.Lib.Strings
namespace Go.Proofs.YtlchagphjmfooaaDoor
open Go.RowKit Go.PlainAid
set_option linter.unusedVariables false

theorem bytesRow (w : World) (s : ByteArray) : RB (Lib.bytesWorld w 5 s) (w.heap.size + 1) (some ⟨w.heap.size, 0, none⟩) s.data.toList := fun h => by
  refine ⟨_, _, rfl, Nat.lt_succ_self _, fun i hi => ?_⟩
  have hi2 : i < s.size := by rw [Lib.size_eq]; exact hi
  rw [Nat.zero_add]
  exact Lib.bytesWorld_cell w _ s i hi2
theorem bytesWorld_size (w : World) (s : ByteArray) : w.heap.size + 1 ≤ (Lib.bytesWorld w 5 s).heap.size := by
  have h := Lib.bytesWorld_at_new w 5 s
  obtain ⟨h1, _⟩ := Array.getElem?_eq_some_iff.1 h
  exact h1
end Go.Proofs.YtlchagphjmfooaaDoor
