/- For every size and every list of parts that hold together at most 1048576 values and letters the law FnRegWrite returns true and leaves its arguments as they were. Conditions: this bound; the tied one. -/
import Derived.Test.YtiahifohkhdmdaaDoorRows
import Derived.Test.YtiahifohkhdmdaaDoorCards
import Derived.Test.YtiahifohkhdmdaaDoorTie
import Derived.Test.YtiahifohkhdmdaaDoorLaidReg
import Derived.Test.YtiahifohkhdmdaaDoorLaidReg
import Derived.SevenTiedAt
import Derived.Test.YtiahifohkhdmdaaDoorParts
import Derived.WalkKit
import Derived.ProofKit
import Derived.Deep.DeepHandedRow
import Derived.Deep.DeepWitnessRowRef
import Derived.Lib.LaidTab
import Derived.OpenShut
import Derived.ShutString
import Derived.ChangeOld
import Derived.Below
namespace Go.Proofs.YtiahifohkhdmdaaDoor.fnRegWrite
open Go.ChangeShapes Go.WideShapes Go.ChangeAt Go.RowKit
open Go.ChangeMaps (open_string shut_string)
set_option linter.unusedVariables false

theorem own : ownKnob Tryd.prog.godebug = none := by kernel_rfl
theorem laidOut : laidOutB Tryd.prog = true := by kernel_rfl

theorem walk (a0 : Int) (a1 : Option Addr) (len1 cap1 : Nat) (pl1 : List Part) (w : World) (w0 : (Lit.int .i64 a0).wf = true) (hl1 : pl1.length = len1) (hr1 : RC w w.heap.size a1 (psl pl1)) (hok1 : ∀ p ∈ pl1, PartOk w w.heap.size p) (hB : ((pl1.map (·.n)).sum + pl1.length) ≤ 1048576) (hL : laidMetH Tryd.prog Rows.fnRegWriteUptoRow.laid w) :
    Calls Tryd.prog 4 #[.int .i64 a0, .slice a1 len1 cap1] w fun e w' => e = .returned (.bool true) ∧ Below w.heap.size w w' := by
  have b0 := wf_bounds_i64 w0
  exact fnRegWrite_walk a0 a1 len1 cap1 pl1 w b0.2 hl1 hr1 hok1 hB hL

theorem reads (os : Os) {H : Type} (enc : TypeId × Value → H) : ∃ places, DataW.whole enc Tryd.prog ((World.doorLaid Tryd.prog 400 os).forCall (fun _ _ => 0) ⟨#[], #[.int .i64 0, .slice none 0 0], []⟩).memory Tryd.f4.params.toList Rows.fnRegWriteSpec.vars false #[Value.int .i64 0, Value.slice none 0 0].toList 8 = some ([.lit (.int .i64 0), .nil], [], places) :=
  ⟨[], by kernel_rfl⟩

set_option maxRecDepth 100000 in
theorem lifted (os : Os) (started : os.Started) (H : Type) (enc : TypeId × Value → H) (F : Stop.Interp) :
    ReturnsInHanded {} Tryd.checked os 4 .any ((Rows.OpenSpec.upto Rows.fnRegWriteSpec).preRow enc Tryd.prog Tryd.f4 Rows.fnRegWriteUptoRow.domain false Rows.fnRegWriteUptoRow.laid) (((Rows.OpenSpec.upto Rows.fnRegWriteSpec).at F).post enc Tryd.prog Tryd.f4 false true false false) := by
  obtain ⟨places, hx⟩ := reads os enc
  refine returnsInHanded_of_row (C := Tryd.checked) (s := Rows.OpenSpec.upto Rows.fnRegWriteSpec) own started (by kernel_rfl) Tryd.func4
    (witness_row_atRef (enc := enc) (C := Tryd.checked) false (World.doorLaid Tryd.prog 400 os) #[.int .i64 0, .slice none 0 0] rfl (by kernel_rfl) (by kernel_rfl) (by kernel_rfl)
      (OpenSpec.preRow_of_cond 8 hx (by kernel_rfl) (fun k hk => by cases hk; kernel_rfl) (by kernel_rfl) (door_metReg os _))) ?_
  intro W base args ds gs before hval0 hW _ hcond _ hL _ _
  have hbulk : Rows.uptoSmall H (ds ++ gs) = true := hcond _ rfl
  have hval : ∀ (j : Nat) t v, Tryd.f4.params[j]? = some t → args[j]? = some v → Value.okWide Tryd.prog W .any base t v := hval0
  have hW' := hW
  obtain ⟨p, q, hA0, hV, rfl, hfz, hnd⟩ := hW
  have hA : DataW.TrodAll enc Tryd.prog W 0 (fun _ => true) true Tryd.f4.params.toList args.toList ds p := hA0
  rw [Tryd.params4] at hA hval
  obtain ⟨v0, vs0, d0, ds0, p0, q0, hargs, rfl, rfl, h0, r0⟩ := trodAll_cons hA
  obtain ⟨v1, vs1, d1, ds1, p1, q1, rfl, rfl, rfl, h1, r1⟩ := trodAll_cons r0
  obtain ⟨rfl, rfl, rfl⟩ := trodAll_nil r1
  obtain rfl : args = #[v0, v1] := by cases args; simp_all
  obtain ⟨rfl, rfl⟩ := trodVars_none hV
  obtain ⟨a0, rfl, rfl, rfl, w0⟩ := open_int Tryd.underlying2 (hval 0 2 v0 rfl rfl) h0
  obtain ⟨a1, len1, cap1, rfl⟩ := okWide_slice Tryd.underlying30 (hval 1 30 v1 rfl rfl)
  have k1 := h1
  have lt1 : ∀ x ∈ p1, x.block < W.heap.size := by obtain ⟨m, hm⟩ := k1; exact DataW.trod_lt m _ _ _ hm
  obtain ⟨pl1, hl1, hr1, hok1, m1⟩ := (fun ⟨fuel, hf⟩ => parts_of_trod Tryd.underlying30 Tryd.underlying23 Tryd.underlying5 (by kernel_rfl) (by kernel_rfl) hf : DataW.Trod enc Tryd.prog W 0 (fun _ => true) true 30 _ d1 p1 → _) h1
  replace m1 : (pl1.map (·.n)).sum + pl1.length ≤ Rows.uptoBulk d1 := m1
  have hB : ((pl1.map (·.n)).sum + pl1.length) ≤ 1048576 := by
    have hb := of_decide_eq_true hbulk
    simp only [List.cons_append, List.nil_append, Rows.uptoBulkAll] at hb
    omega
  clear hA0 hval0
  refine (walk a0 a1 len1 cap1 pl1 W w0 hl1 hr1 hok1 hB hL).mono fun e W' ⟨he, bel⟩ => ?_
  subst he
  exact ⟨_, rfl, _, _, _, [], _, [], hW', trodAll_mk1 (shut_bool Tryd.underlying4 _), (trodAll_cons_mk (shut_int Tryd.underlying2 w0) (trodAll_cons_mk (Below.trod laidOut (by kernel_rfl) (of_decide_eq_true (by kernel_rfl)) k1 bel lt1) trodAll_mk0)), rfl, bel.frame _, fun h => by cases h⟩

theorem over : Rows.FnRegWriteUptoSaid :=
  OpenClaim.holds_of_cond 4 Tryd.f4 rfl rfl rfl rfl rfl rfl rfl ⟨rfl, rfl, rfl, rfl, rfl⟩ rfl rfl rfl rfl rfl (by kernel_rfl) Tryd.func4 (by kernel_rfl)
    (of_decide_eq_true (by kernel_rfl)) (by unfold Func.isWrapper; first | (rw [if_pos (by decide +kernel)]; kernel_rfl) | (rw [if_neg (by decide +kernel)]; exact ⟨rfl, rfl⟩))
    (fun os started H enc _ F => by rw [OpenClaim.pre_eq_preRow]; exact lifted os started H enc F)

theorem proved : Rows.FnRegWriteUptoCardSaid :=
  Claim7.holds_tied_plain_at .later [] [.sentinel, .sentinel, .sentinel, .sentinel, .sentinel, .sentinel, .sentinel] true (true, "3bfc437639aa02bba554d4560bfaba4502976a511afd754c00fc7cf59554d781") true
    over (fun _ h => by cases h) (by kernel_rfl) (fun _ h => by cases h) fnRegWriteUpto_row_tie rfl ⟨rfl, rfl⟩ (by kernel_rfl) rfl
    (fun f fn hf hfn => by
      obtain rfl : f = 4 := Option.some.inj ((show Tryd.prog.funcNamed "tapearchives/laws.FnRegWrite" = some 4 by kernel_rfl).symm.trans hf) |>.symm
      obtain rfl : fn = Tryd.f4 := (Option.some.inj (Tryd.func4.symm.trans hfn)).symm
      exact ⟨by kernel_rfl, fun j t ht => by
        rw [Tryd.params4] at ht
        have hm : t ∈ [2, 30] := by simpa using Array.mem_of_getElem? ht
        have hall : ([2, 30].all fun u => !Tryd.prog.wantsStandIn u) = true := by kernel_rfl
        exact (show Tryd.prog.wantsStandIn t = false by simpa using List.all_eq_true.1 hall t hm)⟩)
    (by kernel_rfl)
end Go.Proofs.YtiahifohkhdmdaaDoor.fnRegWrite
