/- What the tied condition of FnPutText gives: the sentinel's variable holds a pointer. -/
import Derived.Test.YtiahifohkhdmdaaDoorRows
import Derived.LaidLaws
import Derived.LaidMore
import Derived.ProofKit
import Derived.Stop.ErrReads
namespace Go.Proofs.YtiahifohkhdmdaaDoor
open Go.ChangeShapes Go.WideShapes Go.RowKit

theorem lt_of_cell {w : World} {p : Addr} {v : Value} (h : w.cell? p = some v) : p.block < w.heap.size := by
  rcases Nat.lt_or_ge p.block w.heap.size with h1 | h1
  · exact h1
  · simp [World.cell?, Array.getElem?_eq_none h1] at h

theorem gFtl : Tryd.prog.globalNamed "tapearchives/pub/gotar.ErrFieldTooLong" = some 0 := by kernel_rfl
theorem gFtlType : (Tryd.prog.globals[0]?).map (·.type) = some 53 := by kernel_rfl
theorem cellsES : Tryd.prog.cellsOf 125 = 1 := by kernel_rfl
theorem cellsStr : Tryd.prog.cellsOf 9 = 1 := by kernel_rfl
theorem starES : "*" ++ "errors.errorString" = "*errors.errorString" := by decide
theorem rowES (u : TypeId) (h : Tryd.prog.typeName? 3 u = some "*errors.errorString") : u = 100 :=
  typeName_ptr_named (nm := "errors.errorString") (by rw [starES]; kernel_rfl) (by kernel_rfl) (by decide) u (by rw [starES]; exact h)

set_option maxRecDepth 100000 in
theorem ftl_of_laid {W : World} (h0 : laidMetH Tryd.prog Rows.fnPutTextRow.laid W) :
    ∃ a : Addr, W.cell? ⟨0, 0, none⟩ = some (.iface 100 (.pointer (some a))) := by
  have h : laidMet Tryd.prog Rows.fnPutTextRow.laid W := by rw [MakeChecks.laidMetH_plain _ _ _ (by kernel_rfl)] at h0; exact h0
  obtain ⟨ps, ⟨g0, t0, cs0, f0, p0, q0, hg0, ht0, hv0, hd0, hq0, e0⟩, hnd, hrows⟩ := h
  obtain rfl := Option.some.inj (gFtl.symm.trans hg0)
  obtain rfl := Option.some.inj (gFtlType.symm.trans ht0)
  obtain ⟨l0⟩ := cs0
  have hq0' : q0 = [] := hq0
  subst hq0'
  subst e0
  have ok0 : ∀ u v, l0 = [.iface u v] → Value.okWide Tryd.prog W .any 0 u v := fun u v e => by
    subst e
    exact (hrows 0 0 (by simp [MemPlace.row])).2 u v (by simpa using World.var?_cell hg0 hv0 0)
  obtain ⟨a0, s0, rfl, hc0, hs0, hz0, rfl⟩ := errorString_of_trod Tryd.underlying53 rowES Tryd.underlying100 Tryd.underlying125 rfl rfl Tryd.underlying9 cellsES cellsStr hd0 ok0
  exact ⟨a0, by simpa using World.var?_cell gFtl hv0 0⟩

set_option maxRecDepth 100000 in
theorem door_met1 (os : Os) (args : Array Value) : laidMetH Tryd.prog Rows.fnPutTextRow.laid ((World.doorLaid Tryd.prog 400 os).forCall (fun _ _ => 0) ⟨#[], args, []⟩).memory :=
  laidMetH_of_parts3 (fuel := 8) (laidMet_of_run' 8 (by kernel_rfl) (by kernel_rfl)) (by kernel_rfl) (by kernel_rfl)
end Go.Proofs.YtiahifohkhdmdaaDoor
