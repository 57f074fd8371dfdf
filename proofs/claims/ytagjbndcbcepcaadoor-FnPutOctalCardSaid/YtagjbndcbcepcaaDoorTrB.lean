/- bytes.Trim at the set of a space and a byte 0. -/
import Derived.Test.YtagjbndcbcepcaaDoorRows
import Derived.Test.YtagjbndcbcepcaaDoorO
import Derived.Test.YtagjbndcbcepcaaDoorO8
import Derived.Deep.WholeRow
import Derived.Deep.MidRow
import Derived.Deep.LoopGhost
import Derived.Lib.AsciiSet
import Derived.Lib.Strings
import Derived.Lib.IndexBytes
import Derived.Deep.RegionHeld3
import Derived.Deep.CutBlock
import Derived.Deep.DeepCutAuto
namespace Go.Proofs.YtagjbndcbcepcaaDoor
open Go.RowKit Go.PlainAid
set_option linter.unusedVariables false

theorem setInfo : (Tryd.prog.info? 58).map (fun i => (i.zero, i.size)) = some (some (.agg (Array.replicate 256 (.bool false))), 256) := by kernel_rfl
section
variable {P : Program}
/-- A whole array is stored into the block that was made last. -/
theorem wpList_store_new {ops : Array Oper} {rest : List Oper} {op : Oper} {a : Act} {w : World} {Q : Exit → Act → World → Prop} (hgd : op.guard = none) (t : TypeId) (x y : Operand) (ho : op.op = .store t x y)
    (C C' : Array Value) (hx : a.eval x = .pointer (some ⟨w.heap.size, 0, none⟩)) (hy : a.eval y = .agg C') (hi : (P.info? t).map (·.size) = some C'.size) (hs : C.size = C'.size) (h1 : C'.all (·.oneCell') = true)
    (h : wpList P ops Q rest (a.put op.dst undef) (w.alloc (.cells C' t))) : wpList P ops Q (op :: rest) a (w.alloc (.cells C t)) := by
  refine wpList_plain hgd fun K hK => ?_
  unfold Oper.wp execOp
  simp only [ho, hx, hy, Instr.storeAt, Instr.sureAddr, Sem.run_bind, Sem.run_pure, Result.andThen_ok, run_storeVar_new w t C C' hi hs h1]
  exact hK _ _ h
end
theorem results_big {P : Program} {fn : Func} {p u : Tmp} {ty : TypeId} (h : fn.results = #[.cell p ty, .tmp u]) (tmps : Array Value) (w : World) (g : Nat) (t : TypeId) (C : Array Value) (d : TypeDesc)
    (hp : tmps.getD p undef = .pointer (some ⟨g, 0, none⟩)) (hg : w.heap[g]? = some (.cells C t (0, 0)))
    (hu : P.underlying ty = some d) (hd : (match d with | .struct _ | .array _ _ => true | _ => false) = true) (hi : (P.info? ty).map (·.size) = some C.size) :
    (results fn tmps).run P w = .ok (.tuple #[.agg C, tmps.getD u undef]) w := by
  have hp' : tmps[p]?.getD undef = .pointer (some ⟨g, 0, none⟩) := by simpa using hp
  simp [results, h, hp', asAddr, run_loadVar_row w g t ty C (0, 0) d hg hu hd hi]
theorem setSize : (Tryd.prog.info? 58).map (·.size) = some (Lib.setCells [32, 0]).size := by
  rw [Lib.setCells_size]; exact (zero_of_info setInfo).2
set_option maxHeartbeats 1600000 in
set_option maxRecDepth 100000 in
theorem makeSet (w : World) :
    Calls Tryd.prog 44 #[.string ⟨#[32, 0]⟩] w fun e w' => e = .returned (.tuple #[.agg (Lib.setCells [32, 0]), .bool true]) ∧ w' = w.alloc (.cells (Lib.setCells [32, 0]) 58) := by
  obtain ⟨hz1, hz2⟩ := zero_of_info setInfo
  have hz3 := hz1 w
  obtain ⟨S, hS⟩ : ∃ S, (⟨#[32, 0]⟩ : ByteArray) = S := ⟨_, rfl⟩
  have hSz : S.size = 2 := by rw [← hS]; rfl
  have hSb := get_bt S
  have hS0 : bt S 0 = 32 := by rw [← hS]; rfl
  have hS1 : bt S 1 = 0 := by rw [← hS]; rfl
  rw [hS]
  clear hS hz1 hz2
  obtain ⟨C0, hC0⟩ : ∃ C0, Array.replicate 256 (Value.bool false) = C0 := ⟨_, rfl⟩
  rw [hC0] at hz3
  have HC0 : Hid (C0 = Lib.setCells []) := Lib.hid (by rw [← hC0]; rfl)
  clear hC0
  go_enter Tryd.func44, Tryd.ntmps44
  go_wp2
  go_loopw [4] (fun i wr => ∃ (k : Nat) (C : Array Value), k ≤ 2 ∧ i = .int .i64 k ∧ wr = w.alloc (.cells C 58) ∧ Hid (C = Lib.setCells (([32, 0] : List UInt8).take k))) (fun i _ => 2 - (intOf i).toNat)
  case atStart => exact ⟨0, C0, by omega, rfl, rfl, HC0⟩
  case round =>
    obtain ⟨k, C, hk, rfl, rfl, hC⟩ := hrel
    by_cases h0 : k = 0
    · subst h0
      have hcell : C[32]? = some (.bool false) := by rw [hC.out]; exact Lib.setCells_at [] 32
      have HC : Hid (C.setIfInBounds 32 (.bool true) = Lib.setCells (([32, 0] : List UInt8).take 1)) := Lib.hid (by rw [hC.out]; exact (Lib.setCells_snoc [] 32).symm)
      go_wp2
      go_roundw
      case rel => exact ⟨1, _, by omega, rfl, rfl, HC⟩
      case measure => simp [intOf]
    by_cases h1 : k = 1
    · subst h1
      have hcell : C[0]? = some (.bool false) := by rw [hC.out]; exact Lib.setCells_at [32] 0
      have HC : Hid (C.setIfInBounds 0 (.bool true) = Lib.setCells (([32, 0] : List UInt8).take 2)) := Lib.hid (by rw [hC.out]; exact (Lib.setCells_snoc [32] 0).symm)
      go_wp2
      go_roundw
      case rel => exact ⟨2, _, by omega, rfl, rfl, HC⟩
      case measure => simp [intOf]
    · obtain rfl : k = 2 := by omega
      obtain rfl : C = Lib.setCells [32, 0] := hC.out
      have hCs := setSize
      have hC1 := Lib.setCells_one [32, 0]
      obtain ⟨C, hCe⟩ : ∃ C, Lib.setCells [32, 0] = C := ⟨_, rfl⟩
      rw [hCe] at hCs hC1 ⊢
      have HCS := Lib.hid hCs
      have HC1 := Lib.hid hC1
      have HCE := Lib.hid hCe
      clear hCs hC1 hC hCe h0 h1 hz3 HC0 C0
      go_wp2_with (first
        | (refine wpList_load_row (o := ⟨some 20, _, _, _, _, _⟩) rfl 58 (.tmp 2) rfl w.heap.size rfl 58 C (0, 0) _ (heap_alloc_new w _) Tryd.underlying58 rfl HCS.out ?_)
        | (refine wpList_store_new rfl 58 (.tmp 2) (.tmp 20) rfl C C rfl rfl HCS.out rfl HC1.out ?_))
      refine bodyPost_ret (results_big rfl _ _ w.heap.size _ C _ rfl (heap_alloc_new w _) Tryd.underlying58 rfl HCS.out) rfl ?_
      exact ⟨by rw [HCE.out]; rfl, by rw [HCE.out]⟩
end Go.Proofs.YtagjbndcbcepcaaDoor
