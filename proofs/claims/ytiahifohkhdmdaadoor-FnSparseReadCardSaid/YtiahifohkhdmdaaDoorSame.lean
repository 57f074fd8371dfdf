/- The walk of laws.same, where both read alike. -/
import Derived.Test.YtiahifohkhdmdaaDoorO
import Derived.Test.YtiahifohkhdmdaaDoorRows
namespace Go.Proofs.YtiahifohkhdmdaaDoor
open Go.RowKit Go.PlainAid
set_option linter.unusedVariables false

set_option maxRecDepth 20000 in
set_option maxHeartbeats 400000 in
theorem same_yes (A A' : Option Addr) (n c c' B B' : Nat) (bs : List UInt8) (w : World) (hn : bs.length = n) (hr : RB w B A bs) (hr' : RB w B' A' bs) :
    Calls Tryd.prog 9 #[.slice A n c, .slice A' n c'] w fun e w' => e = .returned (.bool true) ∧ w = w' := by
  have HN := Lib.hid hn
  have HR := Lib.hid hr
  have HR' := Lib.hid hr'
  clear hn hr hr'
  go_enter Tryd.func9, Tryd.ntmps9
  go_wp2_with (first
    | (refine wpList_conv_bytes (o := ⟨some 6, _, _, _, _, _⟩) _ rfl (.tmp 5) 23 9 5 rfl Tryd.underlying23 Tryd.underlying5 Tryd.underlying9 A n c B bs rfl HN.out HR.out ?_)
    | (refine wpList_conv_bytes (o := ⟨some 8, _, _, _, _, _⟩) _ rfl (.tmp 7) 23 9 5 rfl Tryd.underlying23 Tryd.underlying5 Tryd.underlying9 A' n c' B' bs rfl HN.out HR'.out ?_))
  go_ret
  exact ⟨rfl, rfl⟩

end Go.Proofs.YtiahifohkhdmdaaDoor
