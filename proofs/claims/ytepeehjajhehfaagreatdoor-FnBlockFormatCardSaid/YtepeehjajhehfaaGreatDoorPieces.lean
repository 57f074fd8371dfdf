/- Words on pieces in memory; the walks of the functions that convert lists of pieces. -/
import Derived.Test.YtepeehjajhehfaaGreatDoorRows
import Derived.Test.YtepeehjajhehfaaGreatDoorO
namespace Go.Proofs.YtepeehjajhehfaaGreatDoor
open Go.RowKit

/-- The cells of a list of pieces. -/
def pcs : List (Int × Int) → List Value
  | [] => []
  | p :: ps => .int .i64 p.1 :: .int .i64 p.2 :: pcs ps
theorem length_pcs : ∀ ps : List (Int × Int), (pcs ps).length = ps.length * 2
  | [] => rfl
  | p :: ps => by simp [pcs, length_pcs ps]; omega
theorem pcs_append : ∀ a b : List (Int × Int), pcs (a ++ b) = pcs a ++ pcs b
  | [], b => rfl
  | p :: a, b => by simp [pcs, pcs_append a b]
theorem pcs_one : ∀ ps : List (Int × Int), ∀ u ∈ pcs ps, u.oneCell' = true
  | [], u, hu => by simp [pcs] at hu
  | p :: ps, u, hu => by
    simp only [pcs, List.mem_cons] at hu
    rcases hu with rfl | rfl | hu
    · rfl
    · rfl
    · exact pcs_one ps u hu
/-- Offset and length of piece k. -/
def po (ps : List (Int × Int)) (k : Nat) : Int := (ps.getD k (0, 0)).1
def pl (ps : List (Int × Int)) (k : Nat) : Int := (ps.getD k (0, 0)).2
theorem pcs_get1 : ∀ (ps : List (Int × Int)) (k : Nat), k < ps.length → (pcs ps)[k * 2]? = some (.int .i64 (po ps k))
  | p :: ps, 0, _ => rfl
  | p :: ps, k + 1, h => by
    rw [show (k + 1) * 2 = k * 2 + 1 + 1 from by omega]
    simp only [pcs, List.getElem?_cons_succ]
    rw [pcs_get1 ps k (by simpa using h)]
    rfl
theorem pcs_get2 : ∀ (ps : List (Int × Int)) (k : Nat), k < ps.length → (pcs ps)[k * 2 + 1]? = some (.int .i64 (pl ps k))
  | p :: ps, 0, _ => rfl
  | p :: ps, k + 1, h => by
    rw [show (k + 1) * 2 + 1 = k * 2 + 1 + 1 + 1 from by omega]
    simp only [pcs, List.getElem?_cons_succ]
    rw [pcs_get2 ps k (by simpa using h)]
    rfl
theorem take_piece (ps : List (Int × Int)) (k : Nat) (h : k < ps.length) : ps.take (k + 1) = ps.take k ++ [(po ps k, pl ps k)] := by
  rw [List.take_succ_eq_append_getElem h]
  have : (po ps k, pl ps k) = ps[k] := by simp [po, pl, List.getD, h]
  rw [this]
theorem pcs_take (ps : List (Int × Int)) (k : Nat) (h : k < ps.length) : pcs (ps.take (k + 1)) = pcs (ps.take k) ++ [.int .i64 (po ps k), .int .i64 (pl ps k)] := by
  rw [take_piece ps k h, pcs_append]
  rfl
theorem rc_new2 (w : World) (o : Obj) (xs : List Value) (t : TypeId) : RC ((w.alloc o).alloc (.cells xs.toArray t)) (w.heap.size + 2) (some ⟨w.heap.size + 1, 0, none⟩) xs := by
  have h := RC.of_blk (Blk.new (w.alloc o) t xs)
  simpa using h
theorem two_one (a b : Int) : ∀ u ∈ [Value.int .i64 a, Value.int .i64 b], u.oneCell' = true := by
  intro u hu
  simp only [List.mem_cons, List.not_mem_nil, or_false] at hu
  rcases hu with rfl | rfl <;> rfl
/-- All numbers are those of int64. -/
def Fit (ps : List (Int × Int)) : Prop := ∀ p ∈ ps, -9223372036854775808 ≤ p.1 ∧ p.1 ≤ 9223372036854775807 ∧ -9223372036854775808 ≤ p.2 ∧ p.2 ≤ 9223372036854775807
theorem Fit.at_ {ps : List (Int × Int)} (h : Fit ps) (k : Nat) : -9223372036854775808 ≤ po ps k ∧ po ps k ≤ 9223372036854775807 ∧ -9223372036854775808 ≤ pl ps k ∧ pl ps k ≤ 9223372036854775807 := by
  by_cases hk : k < ps.length
  · have := h ps[k] (List.getElem_mem hk)
    simpa [po, pl, List.getD, hk] using this
  · simp [po, pl, List.getD, hk]

/-- The two cells of piece k. -/
theorem RC.piece {w : World} {B : Nat} {A : Option Addr} {ps : List (Int × Int)} (h : RC w B A (pcs ps)) {k : Nat} (hk : k < ps.length) :
    ∃ b off, A = some ⟨b, off, none⟩ ∧ b < B ∧ w.cell? ⟨b, off + k * 2, none⟩ = some (.int .i64 (po ps k)) ∧ w.cell? ⟨b, off + k * 2 + 1, none⟩ = some (.int .i64 (pl ps k)) := by
  obtain ⟨b, off, hA, hb, hc⟩ := h (by rw [length_pcs]; omega)
  exact ⟨b, off, hA, hb, hc _ _ (pcs_get1 ps k hk), by rw [Nat.add_assoc]; exact hc _ _ (pcs_get2 ps k hk)⟩

/-- A list of pieces in memory of the call's own. -/
def Made (E : TypeId) (n : Nat) (ps : List (Int × Int)) (w : World) (en : Ending) (w' : World) : Prop :=
  ∃ v, en = .returned v ∧ w'.ownsRow w.heap.size E 2 v n (pcs ps) ∧ Below w.heap.size w w'

end Go.Proofs.YtepeehjajhehfaaGreatDoor
