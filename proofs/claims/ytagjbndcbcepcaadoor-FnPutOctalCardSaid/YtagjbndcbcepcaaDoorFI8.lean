/- strconv.FormatInt at base 8. -/
import Derived.Test.YtagjbndcbcepcaaDoorFB8
namespace Go.Proofs.YtagjbndcbcepcaaDoor
open Go.RowKit Go.PlainAid
set_option linter.unusedVariables false

def FI8P (N : Nat) (w : World) (e : Ending) (w' : World) : Prop := ∃ t, t ≤ 20 ∧ (t = 0 ∨ 8 ^ t ≤ N) ∧ N < 8 ^ (t + 1) ∧ e = .returned (.string (mkS (od (t + 1) (N : Int)))) ∧ Below w.heap.size w w'
set_option maxHeartbeats 800000 in
set_option maxRecDepth 20000 in
theorem formatInt8I (N : Nat) (w : World) (hN : N < 9223372036854775808) (hT : Tz8 w) : Calls Tryd.prog 52 #[.int .i64 (N : Int), .int .i64 8] w (FI8P N w) := by
  have HF := Lib.hid (formatBits8 N w hN hT)
  have hn : ¬ (N : Int) < 0 := by omega
  clear hT
  go_enter Tryd.func52, Tryd.ntmps52
  go_wp2_with fail
  refine HF.out.mono ?_
  rintro e w1 ⟨t, h1, h2, h3, rfl, hb⟩
  have HR := Lib.hid (And.intro h1 (And.intro h2 (And.intro h3 hb)))
  clear h1 h2 h3 hb
  go_wp2
  go_ret
  exact ⟨t, HR.out.1, HR.out.2.1, HR.out.2.2.1, rfl, HR.out.2.2.2⟩
set_option maxHeartbeats 800000 in
set_option maxRecDepth 20000 in
theorem formatInt8 (N : Nat) (w : World) (hN : N < 9223372036854775808) (hT : Tz8 w) : Calls Tryd.prog 39 #[.int .i64 (N : Int), .int .i64 8] w (FI8P N w) := by
  have HF := Lib.hid (formatInt8I N w hN hT)
  clear hT
  go_enter Tryd.func39, Tryd.ntmps39
  go_wp2_with fail
  refine HF.out.mono ?_
  rintro e w1 ⟨t, h1, h2, h3, rfl, hb⟩
  have HR := Lib.hid (And.intro h1 (And.intro h2 (And.intro h3 hb)))
  clear h1 h2 h3 hb
  go_wp2
  go_ret
  exact ⟨t, HR.out.1, HR.out.2.1, HR.out.2.2.1, rfl, HR.out.2.2.2⟩
end Go.Proofs.YtagjbndcbcepcaaDoor
