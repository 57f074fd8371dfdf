/- Words on pieces in order: where each ends; the walk of endOffset. -/
import Derived.Test.YtlchagphjmfooaaDoorConv
import Derived.Deep.RegionHeld3
namespace Go.Proofs.YtlchagphjmfooaaDoor
open Go.RowKit

/-- Where the pieces before piece k end. -/
def ve (ps : List (Int × Int)) : Nat → Int
  | 0 => 0
  | k + 1 => po ps k + pl ps k
/-- Piece k is in order and within the size. -/
def okP (ps : List (Int × Int)) (size : Int) (k : Nat) : Prop := ve ps k ≤ po ps k ∧ 0 ≤ pl ps k ∧ po ps k + pl ps k ≤ size
def vldP (ps : List (Int × Int)) (size : Int) : Prop := 0 ≤ size ∧ ∀ k, k < ps.length → okP ps size k
noncomputable def vld (ps : List (Int × Int)) (size : Int) : Bool := @decide (vldP ps size) (Classical.propDecidable _)
theorem vld_false {ps : List (Int × Int)} {size : Int} (h : ¬ vldP ps size) : vld ps size = false := by simp [vld, h]
theorem vld_true {ps : List (Int × Int)} {size : Int} (h : vldP ps size) : vld ps size = true := by simp [vld, h]
theorem vld_bad {ps : List (Int × Int)} {size : Int} (k : Nat) (hk : k < ps.length) (h : ¬ okP ps size k) : vld ps size = false := vld_false fun hv => h (hv.2 k hk)
theorem vld_end {ps : List (Int × Int)} {size : Int} (h : ∀ k, k < ps.length → okP ps size k) : vld ps size = decide (0 ≤ size) := by
  by_cases h0 : 0 ≤ size
  · rw [vld_true ⟨h0, h⟩]; simp [h0]
  · rw [vld_false (fun hv => h0 hv.1)]; simp [h0]
theorem ok_succ {ps : List (Int × Int)} {size : Int} {k : Nat} (h : ∀ j, j < k → okP ps size j) (h1 : okP ps size k) : ∀ j, j < k + 1 → okP ps size j := by
  intro j hj
  by_cases h2 : j < k
  · exact h j h2
  · obtain rfl : j = k := by omega
    exact h1
theorem ve_nonneg {ps : List (Int × Int)} {size : Int} : ∀ {k : Nat}, (∀ j, j < k → okP ps size j) → 0 ≤ ve ps k
  | 0, _ => Int.le_refl _
  | k + 1, h => by
    have h0 := ve_nonneg (k := k) (fun j hj => h j (by omega))
    have h1 := h k (by omega)
    unfold okP at h1
    show 0 ≤ po ps k + pl ps k
    omega
theorem ve_le {ps : List (Int × Int)} {size : Int} : ∀ {k : Nat}, (∀ j, j < k → okP ps size j) → k = 0 ∨ ve ps k ≤ size
  | 0, _ => .inl rfl
  | k + 1, h => .inr (by have h1 := h k (by omega); unfold okP at h1; show po ps k + pl ps k ≤ size; omega)

theorem ve_max {ps : List (Int × Int)} {size : Int} {k : Nat} (h : ∀ j, j < k → okP ps size j) (hs : size ≤ 9223372036854775807) : ve ps k ≤ 9223372036854775807 := by
  rcases ve_le h with rfl | h
  · show (0 : Int) ≤ _
    omega
  · omega
/-- The piece before piece k. -/
def pr1 (ps : List (Int × Int)) : Nat → Int
  | 0 => 0
  | k + 1 => po ps k
def pr2 (ps : List (Int × Int)) : Nat → Int
  | 0 => 0
  | k + 1 => pl ps k
theorem ve_pr (ps : List (Int × Int)) : ∀ k, ve ps k = pr1 ps k + pr2 ps k
  | 0 => rfl
  | _ + 1 => rfl
theorem pr_bd {ps : List (Int × Int)} (hf : Fit ps) : ∀ k, -9223372036854775808 ≤ pr1 ps k ∧ pr1 ps k ≤ 9223372036854775807 ∧ -9223372036854775808 ≤ pr2 ps k ∧ pr2 ps k ≤ 9223372036854775807
  | 0 => by show -9223372036854775808 ≤ (0 : Int) ∧ (0 : Int) ≤ _ ∧ _ ≤ (0 : Int) ∧ (0 : Int) ≤ _; omega
  | k + 1 => hf.at_ k


theorem cell_alloc3 (w : World) (o1 o2 o3 : Obj) (b i : Nat) (h : b < w.heap.size) : (((w.alloc o1).alloc o2).alloc o3).drew.cell? ⟨b, i, none⟩ = w.cell? ⟨b, i, none⟩ := by
  show (((w.alloc o1).alloc o2).alloc o3).cell? ⟨b, i, none⟩ = _
  rw [World.cell?_alloc_lt _ _ _ (by simp; omega), World.cell?_alloc_lt _ _ _ (by simp; omega), World.cell?_alloc_lt _ _ _ (by omega)]

theorem cell_alloc2 (w : World) (o1 o2 : Obj) (b i : Nat) (h : b < w.heap.size) : ((w.alloc o1).alloc o2).drew.cell? ⟨b, i, none⟩ = w.cell? ⟨b, i, none⟩ := by
  show ((w.alloc o1).alloc o2).cell? ⟨b, i, none⟩ = _
  rw [World.cell?_alloc_lt _ _ _ (by simp; omega), World.cell?_alloc_lt _ _ _ (by omega)]

theorem pinfo_spec : (Tryd.prog.info? 53).map (fun i => (i.zero, i.size, i.bytes)) = some (some (.agg #[.int .i64 0, .int .i64 0]), 2, 16) := by kernel_rfl
end Go.Proofs.YtlchagphjmfooaaDoor
