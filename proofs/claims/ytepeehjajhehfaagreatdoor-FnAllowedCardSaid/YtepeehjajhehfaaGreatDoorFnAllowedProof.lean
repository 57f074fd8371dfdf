/- For every header the law FnAllowed returns true and leaves what it was given as it was. No condition but the tied one. -/
import Derived.Test.YtepeehjajhehfaaGreatDoorRows
import Derived.Test.YtepeehjajhehfaaGreatDoorCards
import Derived.Test.YtepeehjajhehfaaGreatDoorTie
import Derived.Test.YtepeehjajhehfaaGreatDoorMB7
import Derived.SevenTiedAt
import Derived.WalkKit
import Derived.ProofKit
import Derived.OpenShut
import Derived.ShutString
import Derived.ChangeOld
import Derived.Below
namespace Go.Proofs.YtepeehjajhehfaaGreatDoor.fnAllowed
open Go.ChangeShapes Go.WideShapes Go.ChangeAt Go.RowKit
open Go.ChangeMaps (open_string shut_string)
set_option linter.unusedVariables false

theorem own : ownKnob Tryz.prog.godebug = none := by kernel_rfl
theorem laidOut : laidOutB Tryz.prog = true := by kernel_rfl

theorem walk (x0 : Hd) (rs0 : List (ByteArray × ByteArray)) (w : World) (hin0 : x0.In) (hl0 : rs0.length = x0.rn) (hr0 : RC w w.heap.size x0.rA (recsV rs0)) (hc0 : x0.rn ≤ x0.rc) (hm0 : x0.rc ≤ maxLen) (hL : laidMetH Tryz.prog Rows.fnAllowedRow.laid w) :
    Calls Tryz.prog 4 #[x0.ival] w fun e w' => e = .returned (.bool true) ∧ Below w.heap.size w w' := by
  have hmx : maxLen = 9223372036854775807 := rfl
  obtain ⟨hT, hB⟩ := fnAllowedLaid.of_laid hL
  exact fnAllowed_walk x0 rs0 w hin0 hl0 hr0 (by omega) hT hB

set_option maxRecDepth 100000 in
theorem lifted (os : Os) (started : os.Started) (H : Type) (enc : TypeId × Value → H) :
    ReturnsInHanded {} Tryz.checked os 4 .any (fun w args => (Rows.fnAllowedSpec.pre enc Tryz.prog Tryz.f4 [] false w args ∧ laidMetH Tryz.prog Rows.fnAllowedRow.laid w) ∧ sizedMet enc Tryz.prog Tryz.f4 (OpenSpec.ofChange Rows.fnAllowedSpec) false w args)
      (Rows.fnAllowedSpec.post enc Tryz.prog Tryz.f4 false true false false) := by
  refine returnsInHanded_of_change_and (C := Tryz.checked) (X := fun w _ => laidMetH Tryz.prog Rows.fnAllowedRow.laid w) (fun _ _ _ hh h => h.of_heap hh) own started (by kernel_rfl) Tryz.func4
    (ChangeSpec.witness_shaped (enc := enc) (C := Tryz.checked) (os := os) (X := fun w _ => laidMetH Tryz.prog Rows.fnAllowedRow.laid w) false (World.doorLaid Tryz.prog 400 os) #[(.agg #[.int .u8 0, .string ByteArray.empty, .string ByteArray.empty, .int .i64 0, .int .i64 0, .int .i64 0, .int .i64 0, .string ByteArray.empty, .string ByteArray.empty, .int .i64 0, .int .i64 0, .bool false, .int .i64 0, .int .i64 0, .bool false, .int .i64 0, .int .i64 0, .int .i64 0, .int .i64 0, .slice none 0 0, .int .i64 0])] 8 rfl (World.shaped_of_RefB (by kernel_rfl) (by kernel_rfl)) (by kernel_rfl) (by kernel_rfl) (by kernel_rfl) (fnAllowedLaid.door_met os _)) ?_
  intro W base args ds gs before hval0 hW _ _ hL _
  have hval : ∀ (j : Nat) t v, Tryz.f4.params[j]? = some t → args[j]? = some v → Value.okWide Tryz.prog W .any base t v := hval0
  have hW' := hW
  obtain ⟨p, q, hA0, hV, rfl, hfz, hnd⟩ := hW
  have hA : DataW.TrodAll enc Tryz.prog W 0 (fun _ => true) true Tryz.f4.params.toList args.toList ds p := hA0
  rw [Tryz.params4] at hA hval
  obtain ⟨v0, vs0, d0, ds0, p0, q0, hargs, rfl, rfl, h0, r0⟩ := trodAll_cons hA
  obtain ⟨rfl, rfl, rfl⟩ := trodAll_nil r0
  obtain rfl : args = #[v0] := by cases args; simp_all
  obtain ⟨rfl, rfl⟩ := trodVars_none hV
  obtain ⟨cs0, rfl, _⟩ := okWide_struct Tryz.underlying26 (hval 0 26 v0 rfl rfl)
  have k0 := h0
  have lt0 : ∀ x ∈ p0, x.block < W.heap.size := by obtain ⟨m, hm⟩ := k0; exact DataW.trod_lt m _ _ _ hm
  obtain ⟨x0, rs0, hx0, hin0, hl0, hr0, hc0, hm0⟩ := (fun ⟨fuel, hf⟩ => hdr_of_trod hf : DataW.Trod enc Tryz.prog W 0 (fun _ => true) true 26 _ d0 p0 → _) h0
  obtain rfl : cs0 = x0.iarr := by
    have hx2 : cs0.toList = x0.icells := hx0
    have hx3 := congrArg List.toArray hx2
    rw [Array.toArray_toList] at hx3
    exact hx3
  clear hA0 hval0
  refine (walk x0 rs0 W hin0 hl0 hr0 hc0 hm0 hL).mono fun e W' ⟨he, bel⟩ => ?_
  subst he
  exact ⟨_, rfl, _, _, _, [], _, [], hW', trodAll_mk1 (shut_bool Tryz.underlying4 _), (trodAll_cons_mk (Below.trod laidOut (by kernel_rfl) (of_decide_eq_true (by kernel_rfl)) k0 bel lt0) trodAll_mk0), rfl, bel.frame _, fun h => by cases h⟩

theorem over : Rows.fnAllowedRow.holds Tryz.pinned (OpenSpec.ofChange Rows.fnAllowedSpec) :=
  OpenClaim.holds_of_wide 4 Tryz.f4 rfl rfl rfl rfl rfl rfl rfl ⟨rfl, rfl, rfl, rfl, rfl⟩ rfl rfl rfl rfl rfl (by kernel_rfl) Tryz.func4 (by kernel_rfl)
    (of_decide_eq_true (by kernel_rfl)) (by unfold Func.isWrapper; first | (rw [if_pos (by decide +kernel)]; kernel_rfl) | (rw [if_neg (by decide +kernel)]; exact ⟨rfl, rfl⟩))
    (fun os started H enc _ => lifted os started H enc)

theorem proved : Rows.FnAllowedCardSaid :=
  Claim7.holds_tied_plain_at .later [] [.data, .data, .data, .mapped] true (true, "bb0d4a80b562c3aac05b705823645d343bd5d783b554323b57a52f6fa70cf18e") true
    over (fun _ h => by cases h) (by kernel_rfl) (fun _ h => by cases h) fnAllowed_row_tie rfl ⟨rfl, rfl⟩ (by kernel_rfl) rfl
    (fun f fn hf hfn => by
      obtain rfl : f = 4 := Option.some.inj ((show Tryz.prog.funcNamed "tapearchives/laws.FnAllowed" = some 4 by kernel_rfl).symm.trans hf) |>.symm
      obtain rfl : fn = Tryz.f4 := (Option.some.inj (Tryz.func4.symm.trans hfn)).symm
      exact ⟨by kernel_rfl, fun j t ht => by
        rw [Tryz.params4] at ht
        have hm : t ∈ [26] := by simpa using Array.mem_of_getElem? ht
        have hall : ([26].all fun u => !Tryz.prog.wantsStandIn u) = true := by kernel_rfl
        exact (show Tryz.prog.wantsStandIn t = false by simpa using List.all_eq_true.1 hall t hm)⟩)
    (by kernel_rfl)
end Go.Proofs.YtepeehjajhehfaaGreatDoor.fnAllowed
