/- For every list of records and every list of bools of bulk at most 1048576 the law FnRecordsAreRead returns true. No condition but the tied one and the bulk. -/
import Derived.Test.YtlchagphjmfooaaDoorRows
import Derived.Test.YtlchagphjmfooaaDoorCards
import Derived.Test.YtlchagphjmfooaaDoorTie
import Derived.Test.YtlchagphjmfooaaDoorRa5
import Derived.Test.YtlchagphjmfooaaDoorLaidRar
import Derived.SevenTiedAt
import Derived.WalkKit
import Derived.ProofKit
import Derived.Deep.DeepHandedRow
import Derived.Deep.DeepWitnessRowRef
import Derived.Lib.LaidTab
import Derived.OpenShut
import Derived.ShutString
import Derived.ChangeOld
import Derived.Below
namespace Go.Proofs.YtlchagphjmfooaaDoor.fnRecordsAreRead
open Go.ChangeShapes Go.WideShapes Go.ChangeAt Go.RowKit
open Go.ChangeMaps (open_string shut_string)
set_option linter.unusedVariables false

theorem own : ownKnob Tryd.prog.godebug = none := by kernel_rfl
theorem laidOut : laidOutB Tryd.prog = true := by kernel_rfl

theorem walk (a0 : Option Addr) (len0 cap0 : Nat) (rs0 : List (ByteArray × ByteArray)) (a1 : Option Addr) (len1 cap1 : Nat) (K1 : Nat → Bool) (w : World) (hl0 : rs0.length = len0) (hr0 : RC w w.heap.size a0 (recsV rs0)) (hc0 : len0 ≤ cap0) (hm0 : cap0 ≤ maxLen) (hr1 : BoolRow w w.heap.size a1 len1 K1) (hl1 : len1 ≤ cap1) (hm1 : cap1 ≤ maxLen) (hB : bulkR rs0 ≤ 1048576) (hL : laidMetH Tryd.prog Rows.fnRecordsAreReadUptoRow.laid w) :
    Calls Tryd.prog 13 #[.slice a0 len0 cap0, .slice a1 len1 cap1] w fun e w' => e = .returned (.bool true) ∧ Below w.heap.size w w' := by
  have hmx : maxLen = 9223372036854775807 := rfl
  obtain ⟨b1, b2, b3, b4, e1, e2, e3, e4, _, _, _, _, _, _⟩ := fnRecordsAreReadLaid.of_laid hL
  exact fnRar_walk a0 a1 len0 cap0 len1 cap1 rs0 K1 w hl0 hr0 hc0 (by omega) hr1 hl1 (by omega) hB e1 e2 e3 e4

theorem reads (os : Os) {H : Type} (enc : TypeId × Value → H) : ∃ places, DataW.whole enc Tryd.prog ((World.doorLaid Tryd.prog 400 os).forCall (fun _ _ => 0) ⟨#[], #[.slice none 0 0, .slice none 0 0], []⟩).memory Tryd.f13.params.toList Rows.fnRecordsAreReadSpec.vars false #[Value.slice none 0 0, Value.slice none 0 0].toList 8 = some ([.nil, .nil], [], places) :=
  ⟨[], by kernel_rfl⟩

set_option maxRecDepth 100000 in
theorem lifted (os : Os) (started : os.Started) (H : Type) (enc : TypeId × Value → H) (F : Stop.Interp) :
    ReturnsInHanded {} Tryd.checked os 13 .any ((Rows.OpenSpec.upto Rows.fnRecordsAreReadSpec).preRow enc Tryd.prog Tryd.f13 Rows.fnRecordsAreReadUptoRow.domain false Rows.fnRecordsAreReadUptoRow.laid) (((Rows.OpenSpec.upto Rows.fnRecordsAreReadSpec).at F).post enc Tryd.prog Tryd.f13 false true false false) := by
  obtain ⟨places, hx⟩ := reads os enc
  refine returnsInHanded_of_row (C := Tryd.checked) (s := Rows.OpenSpec.upto Rows.fnRecordsAreReadSpec) own started (by kernel_rfl) Tryd.func13
    (witness_row_atRef (enc := enc) (C := Tryd.checked) false (World.doorLaid Tryd.prog 400 os) #[.slice none 0 0, .slice none 0 0] rfl (by kernel_rfl) (by kernel_rfl) (by kernel_rfl)
      (OpenSpec.preRow_of_cond 8 hx (by kernel_rfl) (fun k hk => by cases hk; kernel_rfl) (by kernel_rfl) (fnRecordsAreReadLaid.door_met os _))) ?_
  intro W base args ds gs before hval0 hW _ hcond _ hL _ _
  have hbulk : Rows.uptoSmall H (ds ++ gs) = true := hcond _ rfl
  have hval : ∀ (j : Nat) t v, Tryd.f13.params[j]? = some t → args[j]? = some v → Value.okWide Tryd.prog W .any base t v := hval0
  have hW' := hW
  obtain ⟨p, q, hA0, hV, rfl, hfz, hnd⟩ := hW
  have hA : DataW.TrodAll enc Tryd.prog W 0 (fun _ => true) true Tryd.f13.params.toList args.toList ds p := hA0
  rw [Tryd.params13] at hA hval
  obtain ⟨v0, vs0, d0, ds0, p0, q0, hargs, rfl, rfl, h0, r0⟩ := trodAll_cons hA
  obtain ⟨v1, vs1, d1, ds1, p1, q1, rfl, rfl, rfl, h1, r1⟩ := trodAll_cons r0
  obtain ⟨rfl, rfl, rfl⟩ := trodAll_nil r1
  obtain rfl : args = #[v0, v1] := by cases args; simp_all
  obtain ⟨rfl, rfl⟩ := trodVars_none hV
  obtain ⟨a0, len0, cap0, rfl⟩ := okWide_slice Tryd.underlying46 (hval 0 46 v0 rfl rfl)
  have k0 := h0
  have lt0 : ∀ x ∈ p0, x.block < W.heap.size := by obtain ⟨m, hm⟩ := k0; exact DataW.trod_lt m _ _ _ hm
  obtain ⟨rs0, hl0, hr0, hc0, hm0, m0⟩ := (fun ⟨fuel, hf⟩ => recs_of_trod Tryd.underlying46 Tryd.underlying27 Tryd.underlying9 Tryd.underlying9 rfl rfl (by kernel_rfl) (by kernel_rfl) (by kernel_rfl) hf : DataW.Trod enc Tryd.prog W 0 (fun _ => true) true 46 _ d0 p0 → _) h0
  replace m0 : bulkR rs0 ≤ Rows.uptoBulk d0 := m0
  obtain ⟨a1, len1, cap1, rfl⟩ := okWide_slice Tryd.underlying73 (hval 1 73 v1 rfl rfl)
  have k1 := h1
  have lt1 : ∀ x ∈ p1, x.block < W.heap.size := by obtain ⟨m, hm⟩ := k1; exact DataW.trod_lt m _ _ _ hm
  obtain ⟨K1, hr1, hl1, hm1⟩ := (fun ⟨fuel, hf⟩ => bools_of_trod Tryd.underlying73 Tryd.underlying4 (by kernel_rfl) hf : DataW.Trod enc Tryd.prog W 0 (fun _ => true) true 73 _ d1 p1 → _) h1
  have hB : bulkR rs0 ≤ 1048576 := by
    have hb := of_decide_eq_true hbulk
    simp only [List.cons_append, List.nil_append, Rows.uptoBulkAll] at hb
    omega
  clear hA0 hval0
  refine (walk a0 len0 cap0 rs0 a1 len1 cap1 K1 W hl0 hr0 hc0 hm0 hr1 hl1 hm1 hB hL).mono fun e W' ⟨he, bel⟩ => ?_
  subst he
  exact ⟨_, rfl, _, _, _, [], _, [], hW', trodAll_mk1 (shut_bool Tryd.underlying4 _), (trodAll_cons_mk (Below.trod laidOut (by kernel_rfl) (of_decide_eq_true (by kernel_rfl)) k0 bel lt0) (trodAll_cons_mk (Below.trod laidOut (by kernel_rfl) (of_decide_eq_true (by kernel_rfl)) k1 bel lt1) trodAll_mk0)), rfl, bel.frame _, fun h => by cases h⟩

theorem over : Rows.FnRecordsAreReadUptoSaid :=
  OpenClaim.holds_of_cond 13 Tryd.f13 rfl rfl rfl rfl rfl rfl rfl ⟨rfl, rfl, rfl, rfl, rfl⟩ rfl rfl rfl rfl rfl (by kernel_rfl) Tryd.func13 (by kernel_rfl)
    (of_decide_eq_true (by kernel_rfl)) (by unfold Func.isWrapper; first | (rw [if_pos (by decide +kernel)]; kernel_rfl) | (rw [if_neg (by decide +kernel)]; exact ⟨rfl, rfl⟩))
    (fun os started H enc _ F => by rw [OpenClaim.pre_eq_preRow]; exact lifted os started H enc F)

theorem proved : Rows.FnRecordsAreReadUptoCardSaid :=
  Claim7.holds_tied_plain_at .later [] [.data, .data, .data, .sentinel, .sentinel, .sentinel, .sentinel, .sentinel] true (true, "a0df7433a033861d1c17d133500a1c8b9901765d0b6788a636ca4f4085c33244") true
    over (fun _ h => by cases h) (by kernel_rfl) (fun _ h => by cases h) fnRecordsAreReadUpto_row_tie rfl ⟨rfl, rfl⟩ (by kernel_rfl) rfl
    (fun f fn hf hfn => by
      obtain rfl : f = 13 := Option.some.inj ((show Tryd.prog.funcNamed "tapearchives/laws.FnRecordsAreRead" = some 13 by kernel_rfl).symm.trans hf) |>.symm
      obtain rfl : fn = Tryd.f13 := (Option.some.inj (Tryd.func13.symm.trans hfn)).symm
      exact ⟨by kernel_rfl, fun j t ht => by
        rw [Tryd.params13] at ht
        have hm : t ∈ [46, 73] := by simpa using Array.mem_of_getElem? ht
        have hall : ([46, 73].all fun u => !Tryd.prog.wantsStandIn u) = true := by kernel_rfl
        exact (show Tryd.prog.wantsStandIn t = false by simpa using List.all_eq_true.1 hall t hm)⟩)
    (by kernel_rfl)
end Go.Proofs.YtlchagphjmfooaaDoor.fnRecordsAreRead
