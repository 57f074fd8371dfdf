/- bytes.growSlice of any slice of bytes. -/
import Derived.Test.YtlchagphjmfooaaDoorShelf
import Derived.Test.YtlchagphjmfooaaDoorZer
import Derived.Test.YtlchagphjmfooaaDoorMust
import Derived.Laws.CopyRow
import Derived.Lib.AppendZeros
import Derived.Defers
import Derived.Recover
namespace Go.Proofs.YtlchagphjmfooaaDoor
open Go.RowKit Go.PlainAid
set_option linter.unusedVariables false

theorem zeros_bys (n m : Nat) : Builtin.zeroCells (Value.cells (.int .u8 0)) n ++ Builtin.zeroCells (Value.cells (.int .u8 0)) m = (bys (zbs (n + m))).toArray := by
  apply Array.toList_inj.1
  rw [Array.toList_append, zeroCells_byte, zeroCells_byte, bys_zbs]
  simp [reps]
def GrowP (l n : Nat) (D : List UInt8) (w : World) (e : Ending) (w' : World) : Prop :=
  ∃ cap2 R, e = .returned (.slice (some ⟨w.heap.size, 0, none⟩) l cap2) ∧ Blk w' w.heap.size 5 (bys R) ∧ R.length = cap2 ∧ R.take l = D ∧ l + n ≤ cap2 ∧ cap2 ≤ maxLen ∧ Below w.heap.size w w'
set_option maxRecDepth 20000 in
set_option maxHeartbeats 3200000 in
theorem growSl (g o l c n B : Nat) (D : List UInt8) (w : World) (hl : D.length = l) (hr : RB w B (some ⟨g, o, none⟩) D) (hB : B ≤ w.heap.size) (h1 : 1 ≤ n) (hlc : l ≤ c) (hlim : l + n ≤ 100000000) (hc2 : c ≤ 100000000) :
    Calls Tryd.prog 123 #[.slice (some ⟨g, o, none⟩) l c, .int .i64 n] w (GrowP l n D w) := by
  obtain ⟨i0, hi, hz0, hz1, hz2⟩ := info_parts u8info
  have hsz1 : (Tryd.prog.info? 5).map (·.size) = some 1 := u8size
  obtain ⟨C, hC⟩ : ∃ C, (C = 2 * c ∧ l + n < 2 * c) ∨ (C = l + n ∧ ¬ l + n < 2 * c) := by
    by_cases h : l + n < 2 * c
    · exact ⟨_, .inl ⟨rfl, h⟩⟩
    · exact ⟨_, .inr ⟨rfl, h⟩⟩
  have hC1 : l + n ≤ C := by omega
  have hC2 : C ≤ 200000000 := by omega
  have happ := Lib.run_append_nil_zeros (P := Tryd.prog) w 62 3 62 5 i0 (.int .u8 0) .i64 .i64 Tryd.underlying62 Tryd.underlying3 hi hz0 C (by omega) (by omega) (by omega) (by rw [hz2]; omega)
  generalize hcap : grownCap w C 0 5 = cap2 at happ
  have hcapge : C ≤ cap2 := by rw [← hcap]; exact grownCap_ge w _ 0 _
  have hcaple : cap2 ≤ maxLen := by rw [← hcap]; exact grownCap_le_maxLen w _ 0 _ (by unfold maxLen; omega)
  rw [zeros_bys, show C + (cap2 - C) = cap2 by omega] at happ
  have hZs : (bys (zbs cap2)).length = cap2 := by rw [length_bys, length_zbs]
  have hnews : ∀ j u, (bys D)[j]? = some u → (w.alloc (.cells (bys (zbs cap2)).toArray 5)).drew.cell? ((⟨g, o, none⟩ : Addr).add j) = some u := by
    intro j u hj
    have h := (RC.of_RB (hr.alloc hB (.cells (bys (zbs cap2)).toArray 5)))
    have hjl : j < (bys D).length := (List.getElem?_eq_some_iff.1 hj).1
    obtain ⟨b', o', hA, _, hc⟩ := h (by omega)
    injection hA with hA
    injection hA with e1 e2
    subst e1 e2
    rw [Addr.add_lit]
    exact hc j u hj
  have hcopy := run_copy_row (P := Tryd.prog) (w.alloc (.cells (bys (zbs cap2)).toArray 5)).drew 62 62 3 5 w.heap.size 0 C cap2 ⟨g, o, none⟩ l c (bys (zbs cap2)).toArray 5 (bys D) Tryd.underlying62 hsz1 (heap_alloc_new w _) (by rw [length_bys, hl]; exact (Nat.min_eq_left (by omega)).symm) hnews (by rw [length_bys, hl, List.size_toArray, hZs]; omega) (bys_one D)
  rw [length_bys, hl] at hcopy
  have hYe : (List.take 0 (bys (zbs cap2)).toArray.toList ++ bys D ++ List.drop (0 + l) (bys (zbs cap2)).toArray.toList).toArray = (bys (D ++ zbs (cap2 - l))).toArray := by
    congr 1
    rw [List.take_zero, List.nil_append, Nat.zero_add, bys_append, bys_zbs, bys_zbs]
    simp [reps]
  rw [hYe] at hcopy
  have HFIN : Hid (∀ w' : World, w' = (w.alloc (.cells (bys (zbs cap2)).toArray 5)).setRow w.heap.size (bys (D ++ zbs (cap2 - l))).toArray ∨ w' = (w.alloc (.cells (bys (zbs cap2)).toArray 5)).drew.setRow w.heap.size (bys (D ++ zbs (cap2 - l))).toArray ∨ w' = ((w.alloc (.cells (bys (zbs cap2)).toArray 5)).setRow w.heap.size (bys (D ++ zbs (cap2 - l))).toArray).drew → GrowP l n D w (.returned (.slice (some ⟨w.heap.size, 0, none⟩) l cap2)) w') := Lib.hid (fun w' h => by
    refine ⟨cap2, D ++ zbs (cap2 - l), rfl, ?_, ?_, ?_, by omega, hcaple, ?_⟩
    · rcases h with rfl | rfl | rfl <;> exact setRow_heap _ _ (bys (zbs cap2)).toArray _ 5 (0, 0) (heap_alloc_new w _)
    · rw [List.length_append, hl, length_zbs]; omega
    · rw [← hl]; exact List.take_left
    · rcases h with rfl | rfl | rfl <;> exact ⟨rfl, rfl, rfl, by simp, fun k hk => by first | (rw [setRow_other _ _ _ _ (by omega)]; exact Below.heap_alloc w _ k hk) | (show (World.setRow _ _ _).heap[k]? = _; rw [setRow_other _ _ _ _ (by omega)]; exact Below.heap_alloc w _ k hk)⟩)
  generalize (bys (D ++ zbs (cap2 - l))).toArray = Y at hcopy HFIN
  generalize (bys (zbs cap2)).toArray = Z at happ hcopy HFIN
  have u1 : IntKind.i64.wrap ((l : Int) + (n : Int)) = (l : Int) + (n : Int) := IntWalk.i64_in _ (by omega)
  have u2 : IntKind.i64.wrap (2 * (c : Int)) = 2 * (c : Int) := IntWalk.i64_in _ (by omega)
  have u3 : (l : Int) ≤ (cap2 : Int) := by omega
  have u4 : (l : Int) ≤ (C : Int) := by omega
  clear hYe hnews hZs hr hi hz0 hz1 hz2
  rcases hC with ⟨rfl, hlt⟩ | ⟨rfl, hlt⟩
  · have u5 : (l : Int) + (n : Int) < 2 * (c : Int) := by omega
    rw [show (((2 * c : Nat)) : Int) = 2 * (c : Int) by omega] at happ
    go_enter_defers Tryd.func123, Tryd.ntmps123
    go_wp2_with (at_builtin; refine Lib.wpList_append_run _ rfl _ _ _ _ rfl _ _ rfl rfl _ _ happ ?_)
    refine leaves_cons (f := 139) (args := #[]) (by simp) (enters_of Tryd.func139 (by kernel_rfl) rfl _ _) ?_
    refine (Tryd.growSlice_catch_idle _).mono ?_
    rintro e u' w'' ⟨rfl, rfl, rfl⟩
    refine ⟨_, results_tmp rfl _ _ _, ?_⟩
    exact HFIN.out _ (by first | exact .inl rfl | exact .inr (.inl rfl) | exact .inr (.inr rfl))
  · have u5 : ¬ (l : Int) + (n : Int) < 2 * (c : Int) := by omega
    rw [show (((l + n : Nat)) : Int) = (l : Int) + (n : Int) by omega] at happ
    go_enter_defers Tryd.func123, Tryd.ntmps123
    go_wp2_with (at_builtin; refine Lib.wpList_append_run _ rfl _ _ _ _ rfl _ _ rfl rfl _ _ happ ?_)
    refine leaves_cons (f := 139) (args := #[]) (by simp) (enters_of Tryd.func139 (by kernel_rfl) rfl _ _) ?_
    refine (Tryd.growSlice_catch_idle _).mono ?_
    rintro e u' w'' ⟨rfl, rfl, rfl⟩
    refine ⟨_, results_tmp rfl _ _ _, ?_⟩
    exact HFIN.out _ (by first | exact .inl rfl | exact .inr (.inl rfl) | exact .inr (.inr rfl))
end Go.Proofs.YtlchagphjmfooaaDoor
