/- Rows of strings and of records; joined texts; zzSplit. -/
import Derived.Test.YtepeehjajhehfaaGreatDoorNumW
import Derived.Test.YtepeehjajhehfaaGreatDoorCut
import Derived.Test.YtepeehjajhehfaaGreatDoorPieces
import Derived.Laws.AppendOwn
namespace Go.Proofs.YtepeehjajhehfaaGreatDoor
open Go.RowKit Go.PlainAid
set_option linter.unusedVariables false

theorem strinfo : (Tryz.prog.info? 9).map (fun i => (i.zero, i.size, i.bytes)) = some (some (.string ⟨#[]⟩), 1, 16) := by kernel_rfl
theorem mkS_len (l : List UInt8) : (mkS l).size = l.length := by show l.toArray.size = _; simp
theorem mkS_list (l : List UInt8) : (mkS l).data.toList = l := by simp [mkS]
theorem mkS_cat (a b : List UInt8) : mkS a ++ mkS b = mkS (a ++ b) := by
  apply ByteArray.ext
  simp [mkS]
/-- A row of strings. -/
def strs (L : List (List UInt8)) : List Value := L.map fun l => .string (mkS l)
theorem length_strs (L : List (List UInt8)) : (strs L).length = L.length := by simp [strs]
theorem strs_snoc (L : List (List UInt8)) (l : List UInt8) : strs (L ++ [l]) = strs L ++ [.string (mkS l)] := by simp [strs]
theorem strs_get (L : List (List UInt8)) (k : Nat) (l : List UInt8) (h : L[k]? = some l) : (strs L)[k]? = some (.string (mkS l)) := by simp [strs, h]
theorem strs_one (L : List (List UInt8)) : ∀ u ∈ strs L, u.oneCell' = true := by
  intro u hu
  obtain ⟨_, _, rfl⟩ := List.mem_map.1 hu
  rfl
/-- Texts with a comma between each two. -/
def jn : List (List UInt8) → List UInt8
  | [] => []
  | [a] => a
  | a :: b :: r => a ++ 44 :: jn (b :: r)
theorem jn_cons (a : List UInt8) {r : List (List UInt8)} (h : r ≠ []) : jn (a :: r) = a ++ 44 :: jn r := by
  cases r with
  | nil => exact absurd rfl h
  | cons b r => rfl
theorem jn_snoc : ∀ (L : List (List UInt8)) (b : List UInt8), L ≠ [] → jn (L ++ [b]) = jn L ++ 44 :: b
  | [], _, h => absurd rfl h
  | [a], b, _ => rfl
  | a :: c :: r, b, _ => by
    have h := jn_snoc (c :: r) b (by simp)
    show a ++ 44 :: jn ((c :: r) ++ [b]) = _
    rw [h]
    show _ = (a ++ 44 :: jn (c :: r)) ++ 44 :: b
    simp
theorem jn_len_ge : ∀ (L : List (List UInt8)), L.length ≤ (jn L).length + 1
  | [] => by simp
  | [a] => by simp
  | a :: c :: r => by
    have h := jn_len_ge (c :: r)
    show _ ≤ (a ++ 44 :: jn (c :: r)).length + 1
    simp only [List.length_cons, List.length_append] at h ⊢
    omega
theorem fc_mkS {a : List UInt8} {r : List UInt8} (h : ∀ c ∈ a, c ≠ 44) : fc 44 (mkS (a ++ 44 :: r)) = a.length := by
  unfold fc
  rw [mkS_list, List.findIdx_append, List.findIdx_eq_length.2 (by simpa using h)]
  simp [List.findIdx_cons]
theorem fc_none {a : List UInt8} (h : ∀ c ∈ a, c ≠ 44) : fc 44 (mkS a) = a.length := by
  unfold fc
  rw [mkS_list, List.findIdx_eq_length.2 (by simpa using h)]
theorem mkS_pre (a r : List UInt8) : (mkS (a ++ 44 :: r)).extract 0 a.length = mkS a := by
  apply ba_ext
  rw [Lib.extract_data, mkS_list, mkS_list]
  simp
theorem mkS_post (a r : List UInt8) : (mkS (a ++ 44 :: r)).extract (a.length + 1) (mkS (a ++ 44 :: r)).size = mkS r := by
  apply ba_ext
  rw [Lib.extract_data, mkS_list, mkS_list, mkS_len]
  simp
  exact List.take_of_length_le (by omega)
def strSize : Value → Nat
  | .string s => s.size
  | _ => 0
/-- A row of strings in memory of the call's own. -/
def MadeS (L : List (List UInt8)) (w : World) (en : Ending) (w' : World) : Prop :=
  ∃ v, en = .returned v ∧ w'.ownsRow w.heap.size 9 1 v L.length (strs L) ∧ Below w.heap.size w w'

end Go.Proofs.YtepeehjajhehfaaGreatDoor
