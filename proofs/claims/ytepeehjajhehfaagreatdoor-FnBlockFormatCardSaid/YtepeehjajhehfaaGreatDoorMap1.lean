/- The walk of spec.Map01. -/
import Derived.Test.YtepeehjajhehfaaGreatDoorStrW
import Derived.Test.YtepeehjajhehfaaGreatDoorPutRec
import Derived.Deep.RegionHeld3
namespace Go.Proofs.YtepeehjajhehfaaGreatDoor
open Go.RowKit Go.PlainAid
set_option linter.unusedVariables false

/-- The numbers of pieces, each as its digits. -/
def nmL : List (Int × Int) → List (List UInt8)
  | [] => []
  | p :: r => numL p.1.toNat :: numL p.2.toNat :: nmL r
theorem nmL_append : ∀ a b : List (Int × Int), nmL (a ++ b) = nmL a ++ nmL b
  | [], b => rfl
  | p :: a, b => by simp [nmL, nmL_append a b]
theorem nmL_len : ∀ ps : List (Int × Int), (nmL ps).length = ps.length * 2
  | [] => rfl
  | p :: r => by simp [nmL, nmL_len r]; omega
theorem nmL_mem : ∀ (ps : List (Int × Int)), ∀ l ∈ nmL ps, ∃ n, l = numL n
  | [], l, h => by simp [nmL] at h
  | p :: r, l, h => by
    simp only [nmL, List.mem_cons] at h
    rcases h with h | h | h
    · exact ⟨_, h⟩
    · exact ⟨_, h⟩
    · exact nmL_mem r l h
theorem nmL_no44 (ps : List (Int × Int)) : ∀ l ∈ nmL ps, ∀ c ∈ l, c ≠ 44 := by
  intro l hl c hc h
  obtain ⟨n, rfl⟩ := nmL_mem ps l hl
  have := numL_dig n c hc
  unfold dig at this
  rw [h] at this
  revert this
  decide
theorem nmL_take (ps : List (Int × Int)) (k : Nat) (h : k < ps.length) : nmL (ps.take (k + 1)) = nmL (ps.take k) ++ [numL (po ps k).toNat, numL (pl ps k).toNat] := by
  rw [take_piece ps k h, nmL_append]
  rfl
theorem jn_le : ∀ (L : List (List UInt8)), (∀ l ∈ L, l.length ≤ 19) → (jn L).length ≤ 20 * L.length
  | [], _ => by simp [jn]
  | [a], h => by
    have := h a (by simp)
    show a.length ≤ _
    simp
    omega
  | a :: c :: r, h => by
    have h1 := jn_le (c :: r) (fun l hl => h l (by simp at hl ⊢; exact .inr hl))
    have h2 := h a (by simp)
    show (a ++ 44 :: jn (c :: r)).length ≤ _
    simp only [List.length_cons, List.length_append] at h1 ⊢
    omega
/-- Small pieces. -/
def SmallP (ps : List (Int × Int)) : Prop := ps.length ≤ 100 ∧ ∀ k, k < ps.length → 0 ≤ po ps k ∧ po ps k ≤ 1000000 ∧ 0 ≤ pl ps k ∧ pl ps k ≤ 1000000
theorem SmallP.mem {ps : List (Int × Int)} (h : SmallP ps) : ∀ l ∈ nmL ps, l.length ≤ 19 := by
  intro l hl
  have key : ∀ (qs : List (Int × Int)), (∀ p ∈ qs, p.1 ≤ 1000000 ∧ p.2 ≤ 1000000) → ∀ l ∈ nmL qs, l.length ≤ 19 := by
    intro qs
    induction qs with
    | nil => intro _ l hl; simp [nmL] at hl
    | cons p r ih =>
      intro hq l hl
      have hp := hq p (by simp)
      simp only [nmL, List.mem_cons] at hl
      rcases hl with rfl | rfl | hl
      · exact numL_le19 (by omega)
      · exact numL_le19 (by omega)
      · exact ih (fun q hq' => hq q (by simp [hq'])) l hl
  refine key ps (fun p hp => ?_) l hl
  obtain ⟨k, hk, rfl⟩ := List.getElem_of_mem hp
  have := h.2 k hk
  simp [po, pl, List.getD, hk] at this
  omega
theorem SmallP.jn_le {ps : List (Int × Int)} (h : SmallP ps) : (jn (nmL ps)).length ≤ 4000 := by
  have h1 := Go.Proofs.YtepeehjajhehfaaGreatDoor.jn_le (nmL ps) h.mem
  rw [nmL_len] at h1
  have := h.1
  omega
theorem SmallP.take {ps : List (Int × Int)} (h : SmallP ps) (k : Nat) : SmallP (ps.take k) := by
  refine ⟨by rw [List.length_take]; have := h.1; omega, fun j hj => ?_⟩
  rw [List.length_take] at hj
  have := h.2 j (by omega)
  simpa [po, pl, List.getD, show j < k by omega] using this
/-- The text grows by a comma (but at the first piece) and two numbers. -/
theorem jn_next (L : List (List UInt8)) (a b : List UInt8) : mkS (jn (L ++ [a, b])) = (if L = [] then mkS (jn L) else mkS (jn L) ++ ⟨#[44]⟩) ++ (mkS a ++ ⟨#[44]⟩ ++ mkS b) := by
  have e44 : (⟨#[44]⟩ : ByteArray) = mkS [44] := rfl
  by_cases h : L = []
  · subst h
    rw [if_pos rfl, e44, mkS_cat, mkS_cat, mkS_cat]
    show mkS (a ++ 44 :: b) = mkS ([] ++ _)
    simp
  · rw [if_neg h, e44, mkS_cat, mkS_cat, mkS_cat, mkS_cat, show L ++ [a, b] = (L ++ [a]) ++ [b] by simp, jn_snoc _ b (by simp), jn_snoc _ a h]
    simp
/-- A row of records. -/
def recsV : List (ByteArray × ByteArray) → List Value
  | [] => []
  | p :: r => .string p.1 :: .string p.2 :: recsV r
theorem length_recsV : ∀ rs : List (ByteArray × ByteArray), (recsV rs).length = rs.length * 2
  | [] => rfl
  | p :: r => by simp [recsV, length_recsV r]; omega
def keyNum : ByteArray := ⟨#[71, 78, 85, 46, 115, 112, 97, 114, 115, 101, 46, 110, 117, 109, 98, 108, 111, 99, 107, 115]⟩
def keyMap : ByteArray := ⟨#[71, 78, 85, 46, 115, 112, 97, 114, 115, 101, 46, 109, 97, 112]⟩
/-- The records of a map. -/
def map01 (ps : List (Int × Int)) : List (ByteArray × ByteArray) := [(keyNum, numB ps.length), (keyMap, mkS (jn (nmL ps)))]
def Map01P (ps : List (Int × Int)) (w : World) (e : Ending) (w' : World) : Prop :=
  ∃ g, w.heap.size ≤ g ∧ e = .returned (.slice (some ⟨g, 0, none⟩) 2 2) ∧ Blk w' g 60 (recsV (map01 ps)) ∧ Below w.heap.size w w'
theorem keepS {B pb : Nat} {x y : Value} {w0 W W' : World} (hB0 : B ≤ w0.heap.size) (hb : Below W.heap.size W W') (h : W.cell? ⟨pb, 0, none⟩ = some x ∧ W.cell? ⟨pb, 1, none⟩ = some y ∧ pb < W.heap.size ∧ Below B w0 W) :
    W'.cell? ⟨pb, 0, none⟩ = some x ∧ W'.cell? ⟨pb, 1, none⟩ = some y ∧ pb < W'.heap.size ∧ Below B w0 W' :=
  ⟨(hb.cell (p := ⟨pb, 0, none⟩) h.2.2.1).trans h.1, (hb.cell (p := ⟨pb, 1, none⟩) h.2.2.1).trans h.2.1, Nat.lt_of_lt_of_le h.2.2.1 hb.size, h.2.2.2.trans (hb.mono (Nat.le_trans hB0 h.2.2.2.size))⟩
theorem keepS0 {B pb : Nat} {x y : Value} {w0 W : World} (h : W.cell? ⟨pb, 0, none⟩ = some x ∧ W.cell? ⟨pb, 1, none⟩ = some y ∧ pb < W.heap.size ∧ Below B w0 W) :
    W.drew.cell? ⟨pb, 0, none⟩ = some x ∧ W.drew.cell? ⟨pb, 1, none⟩ = some y ∧ pb < W.drew.heap.size ∧ Below B w0 W.drew := ⟨h.1, h.2.1, h.2.2.1, h.2.2.2.drew⟩

end Go.Proofs.YtepeehjajhehfaaGreatDoor
