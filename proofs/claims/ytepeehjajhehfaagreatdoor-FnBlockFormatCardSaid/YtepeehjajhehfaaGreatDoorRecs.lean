/- Rows of records in memory. -/
import Derived.Test.YtepeehjajhehfaaGreatDoorMap1
namespace Go.Proofs.YtepeehjajhehfaaGreatDoor
open Go.RowKit Go.PlainAid
set_option linter.unusedVariables false

def rk (rs : List (ByteArray × ByteArray)) (k : Nat) : ByteArray := (rs.getD k (⟨#[]⟩, ⟨#[]⟩)).1
def rv (rs : List (ByteArray × ByteArray)) (k : Nat) : ByteArray := (rs.getD k (⟨#[]⟩, ⟨#[]⟩)).2
theorem recsV_append : ∀ a b : List (ByteArray × ByteArray), recsV (a ++ b) = recsV a ++ recsV b
  | [], b => rfl
  | p :: a, b => by simp [recsV, recsV_append a b]
theorem recsV_one : ∀ rs : List (ByteArray × ByteArray), ∀ u ∈ recsV rs, u.oneCell' = true
  | [], u, hu => by simp [recsV] at hu
  | p :: ps, u, hu => by
    simp only [recsV, List.mem_cons] at hu
    rcases hu with rfl | rfl | hu
    · rfl
    · rfl
    · exact recsV_one ps u hu
theorem recsV_get1 : ∀ (rs : List (ByteArray × ByteArray)) (k : Nat), k < rs.length → (recsV rs)[k * 2]? = some (.string (rk rs k))
  | p :: ps, 0, _ => rfl
  | p :: ps, k + 1, h => by
    rw [show (k + 1) * 2 = k * 2 + 1 + 1 from by omega]
    simp only [recsV, List.getElem?_cons_succ]
    rw [recsV_get1 ps k (by simpa using h)]
    rfl
theorem recsV_get2 : ∀ (rs : List (ByteArray × ByteArray)) (k : Nat), k < rs.length → (recsV rs)[k * 2 + 1]? = some (.string (rv rs k))
  | p :: ps, 0, _ => rfl
  | p :: ps, k + 1, h => by
    rw [show (k + 1) * 2 + 1 = k * 2 + 1 + 1 + 1 from by omega]
    simp only [recsV, List.getElem?_cons_succ]
    rw [recsV_get2 ps k (by simpa using h)]
    rfl
theorem take_rec (rs : List (ByteArray × ByteArray)) (k : Nat) (h : k < rs.length) : rs.take (k + 1) = rs.take k ++ [(rk rs k, rv rs k)] := by
  rw [List.take_succ_eq_append_getElem h]
  have : (rk rs k, rv rs k) = rs[k] := by simp [rk, rv, List.getD, h]
  rw [this]
theorem recsV_take (rs : List (ByteArray × ByteArray)) (k : Nat) (h : k < rs.length) : recsV (rs.take (k + 1)) = recsV (rs.take k) ++ [.string (rk rs k), .string (rv rs k)] := by
  rw [take_rec rs k h, recsV_append]
  rfl
theorem two_strs (a b : ByteArray) : ∀ u ∈ [Value.string a, Value.string b], u.oneCell' = true := by
  intro u hu
  simp only [List.mem_cons, List.not_mem_nil, or_false] at hu
  rcases hu with rfl | rfl <;> rfl
/-- The two cells of record k. -/
theorem RC.rec_ {w : World} {B : Nat} {A : Option Addr} {rs : List (ByteArray × ByteArray)} (h : RC w B A (recsV rs)) {k : Nat} (hk : k < rs.length) :
    ∃ b off, A = some ⟨b, off, none⟩ ∧ b < B ∧ w.cell? ⟨b, off + k * 2, none⟩ = some (.string (rk rs k)) ∧ w.cell? ⟨b, off + k * 2 + 1, none⟩ = some (.string (rv rs k)) := by
  obtain ⟨b, off, hA, hb, hc⟩ := h (by rw [length_recsV]; omega)
  exact ⟨b, off, hA, hb, hc _ _ (recsV_get1 rs k hk), by rw [Nat.add_assoc]; exact hc _ _ (recsV_get2 rs k hk)⟩
/-- A list of records in memory of the call's own. -/
def MadeR (E : TypeId) (n : Nat) (rs : List (ByteArray × ByteArray)) (w : World) (en : Ending) (w' : World) : Prop :=
  ∃ v, en = .returned v ∧ w'.ownsRow w.heap.size E 2 v n (recsV rs) ∧ Below w.heap.size w w'
end Go.Proofs.YtepeehjajhehfaaGreatDoor
