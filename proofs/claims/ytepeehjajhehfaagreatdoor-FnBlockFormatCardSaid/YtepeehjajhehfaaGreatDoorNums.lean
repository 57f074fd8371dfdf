/- Numbers that came in, as a row of cells. -/
import Derived.Test.YtepeehjajhehfaaGreatDoorO
namespace Go.Proofs.YtepeehjajhehfaaGreatDoor
open Go.RowKit

def nums (ns : List Int) : List Value := ns.map (Value.int .i64)
def nv (ns : List Int) (k : Nat) : Int := ns.getD k 0
theorem length_nums (ns : List Int) : (nums ns).length = ns.length := by simp [nums]
theorem nums_get (ns : List Int) (k : Nat) (h : k < ns.length) : (nums ns)[k]? = some (.int .i64 (nv ns k)) := by simp [nums, nv, List.getD, h]
def Small (ns : List Int) : Prop := ∀ k, -9223372036854775808 ≤ nv ns k ∧ nv ns k ≤ 9223372036854775807
theorem rc_of_isRow {w : World} {a : Option Addr} {len cap : Nat} {zs : List Int} (h : IsRow .i64 w a len cap zs) : ∃ ns : List Int, ns.length = len ∧ RC w w.heap.size a (nums ns) ∧ Small ns := by
  rcases h with ⟨rfl, rfl, rfl, rfl⟩ | ⟨x, rfl, hl, hm, hz, hc, hw⟩
  · exact ⟨[], rfl, RC.nil_, fun k => by simp [nv]⟩
  · refine ⟨zs.take len, by simp; omega, fun hpos => ?_, fun k => ?_⟩
    · rw [length_nums, List.length_take] at hpos
      obtain ⟨b, off, spot⟩ := x
      have h0 := hc 0 (by omega)
      have hs : spot = none := by simpa [Addr.add] using World.cell?_spot h0
      subst hs
      refine ⟨b, off, rfl, ?_, fun i v hi => ?_⟩
      · have := block_lt_of_cell h0
        simpa [Addr.add] using this
      · have hil : i < (zs.take len).length := by
          have := (List.getElem?_eq_some_iff.1 hi).1
          rwa [length_nums] at this
        rw [nums_get _ _ hil] at hi
        obtain rfl := Option.some.inj hi
        rw [List.length_take] at hil
        have hci := hc i (by omega)
        rw [Addr.add_lit] at hci
        rw [hci]
        simp [nv, List.getD, show i < len by omega]
    · by_cases hk : k < (zs.take len).length
      · have : nv (zs.take len) k = (zs.take len)[k] := by rw [nv, List.getD, List.getElem?_eq_getElem hk, Option.getD_some]
        rw [this]
        exact wf_bounds_i64 (hw _ (List.mem_of_mem_take (List.getElem_mem hk)))
      · have : nv (zs.take len) k = 0 := by simp only [nv, List.getD, List.getElem?_eq_none (Nat.le_of_not_lt hk), Option.getD_none]
        rw [this]
        omega
theorem RC.num {w : World} {B : Nat} {A : Option Addr} {ns : List Int} (h : RC w B A (nums ns)) {k : Nat} (hk : k < ns.length) :
    ∃ b off, A = some ⟨b, off, none⟩ ∧ b < B ∧ ∀ j, j < ns.length → w.cell? ⟨b, off + j, none⟩ = some (.int .i64 (nv ns j)) := by
  obtain ⟨b, off, hA, hb, hc⟩ := h (by rw [length_nums]; omega)
  exact ⟨b, off, hA, hb, fun j hj => hc _ _ (nums_get ns j hj)⟩

/-! ### The pieces of FnAlign -/
end Go.Proofs.YtepeehjajhehfaaGreatDoor
