/- The law FnRecordsAreRead: its own walk. -/
import Derived.Test.YtlchagphjmfooaaDoorRa1
import Derived.Test.YtlchagphjmfooaaDoorRa3
import Derived.Test.YtlchagphjmfooaaDoorRecArg
namespace Go.Proofs.YtlchagphjmfooaaDoor
open Go.RowKit Go.PlainAid
set_option linter.unusedVariables false

theorem rk_at (l : List (ByteArray × ByteArray)) (k : Nat) (h : k < l.length) : (rk l k, rv l k) = l[k] := by simp [rk, rv, List.getD, h]
theorem hasOk_tab (l : List (ByteArray × ByteArray)) : HasOk (tab l) l := by
  intro k hk hlast
  have hmem : (rk l k, rv l k) ∈ tab l := by
    have e : l = l.take k ++ [(rk l k, rv l k)] ++ l.drop (k + 1) := by
      rw [rk_at l k hk, ← List.take_succ_eq_append_getElem hk, List.take_append_drop]
    have h := tab_last (l.take k) (l.drop (k + 1)) (rk l k, rv l k) (fun y hy => by
      obtain ⟨i, hi, rfl⟩ := List.getElem_of_mem hy
      rw [List.length_drop] at hi
      have h2 := hlast (k + 1 + i) (by omega) (by omega)
      rw [List.getElem_drop]
      have h3 := congrArg Prod.fst (rk_at l (k + 1 + i) (by omega))
      intro h4
      exact h2 (h3.trans h4))
    rwa [← e] at h
  obtain ⟨i, hi, he⟩ := List.getElem_of_mem hmem
  have h1 := rk_at (tab l) i hi
  rw [he] at h1
  injection h1 with e1 e2
  refine ⟨i, hi, e1, e2, fun j hj hq => ?_⟩
  have hs := tab_sorted l
  unfold SortedT at hs
  have hp := List.pairwise_iff_getElem.1 hs
  have ej := congrArg Prod.fst (rk_at (tab l) j hj)
  have ei := congrArg Prod.fst (rk_at (tab l) i hi)
  rcases Nat.lt_trichotomy j i with h | h | h
  · have := hp j i hj hi h
    rw [← ej, ← ei, hq, e1, less_irrefl] at this
    cases this
  · exact h
  · have := hp i j hi hj h
    rw [← ej, ← ei, hq, e1, less_irrefl] at this
    cases this
theorem bulkR_take (l : List (ByteArray × ByteArray)) (k : Nat) : bulkR (l.take k) ≤ bulkR l := by
  have h : l = l.take k ++ l.drop k := (List.take_append_drop k l).symm
  have e : bulkR l = bulkR (l.take k) + bulkR (l.drop k) := by
    have h2 := congrArg bulkR h
    unfold bulkR at h2 ⊢
    rw [List.map_append, List.sum_append] at h2
    exact h2
  omega
theorem bulkR_succ (l : List (ByteArray × ByteArray)) (k : Nat) (hk : k < l.length) : bulkR (l.take (k + 1)) = bulkR (l.take k) + ((rk l k).size + (rv l k).size + 3) := by
  rw [take_rec l k hk]
  unfold bulkR
  rw [List.map_append, List.sum_append]
  simp
theorem bulkR_len : ∀ l : List (ByteArray × ByteArray), l.length * 3 ≤ bulkR l
  | [] => by simp [bulkR]
  | r :: l => by
    have h := bulkR_len l
    unfold bulkR at h ⊢
    simp only [List.map_cons, List.sum_cons, List.length_cons]
    omega
theorem bulkR_sizes (l : List (ByteArray × ByteArray)) (h : bulkR l ≤ 1048576) (k : Nat) : (rk l k).size ≤ 1048576 ∧ (rv l k).size ≤ 1048576 := by
  by_cases hk : k < l.length
  · have h1 := bulkR_succ l k hk
    have h2 := bulkR_take l (k + 1)
    omega
  · have e : l.getD k (⟨#[]⟩, ⟨#[]⟩) = (⟨#[]⟩, ⟨#[]⟩) := by simp [List.getD, List.getElem?_eq_none (by omega : l.length ≤ k)]
    have h0 : (⟨#[]⟩ : ByteArray).size = 0 := rfl
    unfold rk rv
    rw [e]
    exact ⟨by show (⟨#[]⟩ : ByteArray).size ≤ _; omega, by show (⟨#[]⟩ : ByteArray).size ≤ _; omega⟩
/-- What the loop keeps of the block of a record and of the row of bools. -/
theorem keepR {B pb : Nat} {x y : Value} {lb lo : Nat} {z : Value} {w0 W W' : World} (hB0 : B ≤ w0.heap.size) (hb : Below W.heap.size W W') (h : W.cell? ⟨pb, 0, none⟩ = some x ∧ W.cell? ⟨pb, 1, none⟩ = some y ∧ W.cell? ⟨lb, lo, none⟩ = some z ∧ pb < W.heap.size ∧ lb < W.heap.size ∧ Below B w0 W) :
    W'.cell? ⟨pb, 0, none⟩ = some x ∧ W'.cell? ⟨pb, 1, none⟩ = some y ∧ W'.cell? ⟨lb, lo, none⟩ = some z ∧ pb < W'.heap.size ∧ lb < W'.heap.size ∧ Below B w0 W' :=
  ⟨(hb.cell (p := ⟨pb, 0, none⟩) h.2.2.2.1).trans h.1, (hb.cell (p := ⟨pb, 1, none⟩) h.2.2.2.1).trans h.2.1, (hb.cell (p := ⟨lb, lo, none⟩) h.2.2.2.2.1).trans h.2.2.1, Nat.lt_of_lt_of_le h.2.2.2.1 hb.size, Nat.lt_of_lt_of_le h.2.2.2.2.1 hb.size, h.2.2.2.2.2.trans (hb.mono (Nat.le_trans hB0 h.2.2.2.2.2.size))⟩
theorem keepR0 {B pb : Nat} {x y : Value} {lb lo : Nat} {z : Value} {w0 W : World} (h : W.cell? ⟨pb, 0, none⟩ = some x ∧ W.cell? ⟨pb, 1, none⟩ = some y ∧ W.cell? ⟨lb, lo, none⟩ = some z ∧ pb < W.heap.size ∧ lb < W.heap.size ∧ Below B w0 W) :
    W.drew.cell? ⟨pb, 0, none⟩ = some x ∧ W.drew.cell? ⟨pb, 1, none⟩ = some y ∧ W.drew.cell? ⟨lb, lo, none⟩ = some z ∧ pb < W.drew.heap.size ∧ lb < W.drew.heap.size ∧ Below B w0 W.drew := ⟨h.1, h.2.1, h.2.2.1, h.2.2.2.1, h.2.2.2.2.1, h.2.2.2.2.2.drew⟩
theorem keepQ {B pb : Nat} {x y : Value} {w0 W W' : World} (hB0 : B ≤ w0.heap.size) (hb : Below W.heap.size W W') (h : W.cell? ⟨pb, 0, none⟩ = some x ∧ W.cell? ⟨pb, 1, none⟩ = some y ∧ pb < W.heap.size ∧ Below B w0 W) :
    W'.cell? ⟨pb, 0, none⟩ = some x ∧ W'.cell? ⟨pb, 1, none⟩ = some y ∧ pb < W'.heap.size ∧ Below B w0 W' :=
  ⟨(hb.cell (p := ⟨pb, 0, none⟩) h.2.2.1).trans h.1, (hb.cell (p := ⟨pb, 1, none⟩) h.2.2.1).trans h.2.1, Nat.lt_of_lt_of_le h.2.2.1 hb.size, h.2.2.2.trans (hb.mono (Nat.le_trans hB0 h.2.2.2.size))⟩
theorem keepQ0 {B pb : Nat} {x y : Value} {w0 W : World} (h : W.cell? ⟨pb, 0, none⟩ = some x ∧ W.cell? ⟨pb, 1, none⟩ = some y ∧ pb < W.heap.size ∧ Below B w0 W) :
    W.drew.cell? ⟨pb, 0, none⟩ = some x ∧ W.drew.cell? ⟨pb, 1, none⟩ = some y ∧ pb < W.drew.heap.size ∧ Below B w0 W.drew := ⟨h.1, h.2.1, h.2.2.1, h.2.2.2.drew⟩
/-- What PutRecord adds. -/
theorem txt_more {l : List (ByteArray × ByteArray)} {k j : Nat} {S X Y : ByteArray} (hk : k < l.length) (hX : X = rk l k) (hY : Y = rv l k) (hT : Txt (l.take k) S) (hs : X.size ≤ 1048576) (hs2 : Y.size ≤ 1048576) (hj : j ≤ 18) (hn : (numL ((recR X Y).size + j)).length = j) (hq : ∀ m, m < X.size → bt X m ≠ ((61 : UInt8).toNat : Int)) :
    Txt (l.take (k + 1)) (S ++ (numB ((recR X Y).size + j) ++ recR X Y)) := by
  have hr := recR_size X Y
  rw [take_rec l k hk, ← hX, ← hY]
  refine .snoc hT (N := (recR X Y).size + j) ⟨rfl, by omega⟩ (by omega) ?_
  rw [fc_all 61 X hq]
  omega
theorem put_size {X Y : ByteArray} {j : Nat} (hn : (numL ((recR X Y).size + j)).length = j) : (numB ((recR X Y).size + j) ++ recR X Y).size = X.size + Y.size + 3 + j := by
  rw [ByteArray.size_append, numB_size, hn, recR_size]
  omega
end Go.Proofs.YtlchagphjmfooaaDoor
