/- The walk of spec.Map01. -/
import Derived.Test.YtlchagphjmfooaaDoorStrW
import Derived.Test.YtlchagphjmfooaaDoorPutRec
import Derived.Deep.RegionHeld3
namespace Go.Proofs.YtlchagphjmfooaaDoor
open Go.RowKit Go.PlainAid
set_option linter.unusedVariables false

/-- The numbers of pieces, each as its digits. -/
def nmL : List (Int × Int) → List (List UInt8)
  | [] => []
  | p :: r => numL p.1.toNat :: numL p.2.toNat :: nmL r
theorem nmL_append : ∀ a b : List (Int × Int), nmL (a ++ b) = nmL a ++ nmL b
  | [], b => rfl
  | p :: a, b => by simp [nmL, nmL_append a b]
theorem nmL_len : ∀ ps : List (Int × Int), (nmL ps).length = ps.length * 2
  | [] => rfl
  | p :: r => by simp [nmL, nmL_len r]; omega
theorem nmL_mem : ∀ (ps : List (Int × Int)), ∀ l ∈ nmL ps, ∃ n, l = numL n
  | [], l, h => by simp [nmL] at h
  | p :: r, l, h => by
    simp only [nmL, List.mem_cons] at h
    rcases h with h | h | h
    · exact ⟨_, h⟩
    · exact ⟨_, h⟩
    · exact nmL_mem r l h
theorem nmL_no44 (ps : List (Int × Int)) : ∀ l ∈ nmL ps, ∀ c ∈ l, c ≠ 44 := by
  intro l hl c hc h
  obtain ⟨n, rfl⟩ := nmL_mem ps l hl
  have := numL_dig n c hc
  unfold dig at this
  rw [h] at this
  revert this
  decide
theorem nmL_take (ps : List (Int × Int)) (k : Nat) (h : k < ps.length) : nmL (ps.take (k + 1)) = nmL (ps.take k) ++ [numL (po ps k).toNat, numL (pl ps k).toNat] := by
  rw [take_piece ps k h, nmL_append]
  rfl
theorem jn_le : ∀ (L : List (List UInt8)), (∀ l ∈ L, l.length ≤ 19) → (jn L).length ≤ 20 * L.length
  | [], _ => by simp [jn]
  | [a], h => by
    have := h a (by simp)
    show a.length ≤ _
    simp
    omega
  | a :: c :: r, h => by
    have h1 := jn_le (c :: r) (fun l hl => h l (by simp at hl ⊢; exact .inr hl))
    have h2 := h a (by simp)
    show (a ++ 44 :: jn (c :: r)).length ≤ _
    simp only [List.length_cons, List.length_append] at h1 ⊢
    omega
/-- Small pieces. -/
def SmallP (ps : List (Int × Int)) : Prop := ps.length ≤ 100 ∧ ∀ k, k < ps.length → 0 ≤ po ps k ∧ po ps k ≤ 1000000 ∧ 0 ≤ pl ps k ∧ pl ps k ≤ 1000000
theorem SmallP.mem {ps : List (Int × Int)} (h : SmallP ps) : ∀ l ∈ nmL ps, l.length ≤ 19 := by
  intro l hl
  have key : ∀ (qs : List (Int × Int)), (∀ p ∈ qs, p.1 ≤ 1000000 ∧ p.2 ≤ 1000000) → ∀ l ∈ nmL qs, l.length ≤ 19 := by
    intro qs
    induction qs with
    | nil => intro _ l hl; simp [nmL] at hl
    | cons p r ih =>
      intro hq l hl
      have hp := hq p (by simp)
      simp only [nmL, List.mem_cons] at hl
      rcases hl with rfl | rfl | hl
      · exact numL_le19 (by omega)
      · exact numL_le19 (by omega)
      · exact ih (fun q hq' => hq q (by simp [hq'])) l hl
  refine key ps (fun p hp => ?_) l hl
  obtain ⟨k, hk, rfl⟩ := List.getElem_of_mem hp
  have := h.2 k hk
  simp [po, pl, List.getD, hk] at this
  omega
theorem SmallP.jn_le {ps : List (Int × Int)} (h : SmallP ps) : (jn (nmL ps)).length ≤ 4000 := by
  have h1 := Go.Proofs.YtlchagphjmfooaaDoor.jn_le (nmL ps) h.mem
  rw [nmL_len] at h1
  have := h.1
  omega
theorem SmallP.take {ps : List (Int × Int)} (h : SmallP ps) (k : Nat) : SmallP (ps.take k) := by
  refine ⟨by rw [List.length_take]; have := h.1; omega, fun j hj => ?_⟩
  rw [List.length_take] at hj
  have := h.2 j (by omega)
  simpa [po, pl, List.getD, show j < k by omega] using this
/-- The text grows by a comma (but at the first piece) and two numbers. -/
theorem jn_next (L : List (List UInt8)) (a b : List UInt8) : mkS (jn (L ++ [a, b])) = (if L = [] then mkS (jn L) else mkS (jn L) ++ ⟨#[44]⟩) ++ (mkS a ++ ⟨#[44]⟩ ++ mkS b) := by
  have e44 : (⟨#[44]⟩ : ByteArray) = mkS [44] := rfl
  by_cases h : L = []
  · subst h
    rw [if_pos rfl, e44, mkS_cat, mkS_cat, mkS_cat]
    show mkS (a ++ 44 :: b) = mkS ([] ++ _)
    simp
  · rw [if_neg h, e44, mkS_cat, mkS_cat, mkS_cat, mkS_cat, show L ++ [a, b] = (L ++ [a]) ++ [b] by simp, jn_snoc _ b (by simp), jn_snoc _ a h]
    simp
/-- A row of records. -/
def recsV : List (ByteArray × ByteArray) → List Value
  | [] => []
  | p :: r => .string p.1 :: .string p.2 :: recsV r
theorem length_recsV : ∀ rs : List (ByteArray × ByteArray), (recsV rs).length = rs.length * 2
  | [] => rfl
  | p :: r => by simp [recsV, length_recsV r]; omega
def keyNum : ByteArray := ⟨#[71, 78, 85, 46, 115, 112, 97, 114, 115, 101, 46, 110, 117, 109, 98, 108, 111, 99, 107, 115]⟩
def keyMap : ByteArray := ⟨#[71, 78, 85, 46, 115, 112, 97, 114, 115, 101, 46, 109, 97, 112]⟩
/-- The records of a map. -/
def map01 (ps : List (Int × Int)) : List (ByteArray × ByteArray) := [(keyNum, numB ps.length), (keyMap, mkS (jn (nmL ps)))]
def Map01P (ps : List (Int × Int)) (w : World) (e : Ending) (w' : World) : Prop :=
  ∃ g, w.heap.size ≤ g ∧ e = .returned (.slice (some ⟨g, 0, none⟩) 2 2) ∧ Blk w' g 23 (recsV (map01 ps)) ∧ Below w.heap.size w w'
theorem keepS {B pb : Nat} {x y : Value} {w0 W W' : World} (hB0 : B ≤ w0.heap.size) (hb : Below W.heap.size W W') (h : W.cell? ⟨pb, 0, none⟩ = some x ∧ W.cell? ⟨pb, 1, none⟩ = some y ∧ pb < W.heap.size ∧ Below B w0 W) :
    W'.cell? ⟨pb, 0, none⟩ = some x ∧ W'.cell? ⟨pb, 1, none⟩ = some y ∧ pb < W'.heap.size ∧ Below B w0 W' :=
  ⟨(hb.cell (p := ⟨pb, 0, none⟩) h.2.2.1).trans h.1, (hb.cell (p := ⟨pb, 1, none⟩) h.2.2.1).trans h.2.1, Nat.lt_of_lt_of_le h.2.2.1 hb.size, h.2.2.2.trans (hb.mono (Nat.le_trans hB0 h.2.2.2.size))⟩
theorem keepS0 {B pb : Nat} {x y : Value} {w0 W : World} (h : W.cell? ⟨pb, 0, none⟩ = some x ∧ W.cell? ⟨pb, 1, none⟩ = some y ∧ pb < W.heap.size ∧ Below B w0 W) :
    W.drew.cell? ⟨pb, 0, none⟩ = some x ∧ W.drew.cell? ⟨pb, 1, none⟩ = some y ∧ pb < W.drew.heap.size ∧ Below B w0 W.drew := ⟨h.1, h.2.1, h.2.2.1, h.2.2.2.drew⟩

set_option maxRecDepth 20000 in
set_option maxHeartbeats 3200000 in
theorem specMap01 (A : Option Addr) (n c B : Nat) (ps : List (Int × Int)) (w : World) (hn : ps.length = n) (hr : RC w B A (pcs ps)) (hB : B ≤ w.heap.size) (hS : SmallP ps) :
    Calls Tryd.prog 23 #[.slice A n c] w (Map01P ps w) := by
  have HN := Lib.hid hn
  have HR := Lib.hid hr
  have HS := Lib.hid hS
  have hn100 : n ≤ 100 := by have := hS.1; omega
  clear hn hr hS
  go_enter Tryd.func23, Tryd.ntmps23
  go_wp2
  go_loopw [3, 8] (fun s i wr => ∃ (k : Nat) (t : ByteArray), k ≤ n ∧ i = .int .i64 k ∧ s = .string t ∧ Hid (t = mkS (jn (nmL (ps.take k)))) ∧ Hid (Below w.heap.size w wr)) (fun _ i _ => n - (intOf i).toNat)
  case atStart => exact ⟨0, ⟨#[]⟩, by omega, rfl, rfl, Lib.hid rfl, Lib.hid (Below.refl _ _)⟩
  case round =>
    obtain ⟨k, t, hk, rfl, rfl, hT, hW⟩ := hrel
    have hts : t.size ≤ 4000 := by rw [hT.out, mkS_len]; exact (HS.out.take k).jn_le
    by_cases hlt : k < n
    · obtain ⟨b, off, rfl, _, hc1, hc2⟩ := (HR.out.below (hW.out.mono hB)).piece (k := k) (by rw [HN.out]; exact hlt)
      have hsm := HS.out.2 k (by rw [HN.out]; exact hlt)
      obtain ⟨O, hO⟩ : ∃ O : Nat, po ps k = (O : Int) := ⟨(po ps k).toNat, by omega⟩
      obtain ⟨M, hM⟩ : ∃ M : Nat, pl ps k = (M : Int) := ⟨(pl ps k).toNat, by omega⟩
      have hO6 : O ≤ 1000000 := by omega
      have hM6 : M ≤ 1000000 := by omega
      have HNX : Hid (mkS (jn (nmL (ps.take (k + 1)))) = (if nmL (ps.take k) = [] then mkS (jn (nmL (ps.take k))) else mkS (jn (nmL (ps.take k))) ++ ⟨#[44]⟩) ++ (numB O ++ ⟨#[44]⟩ ++ numB M)) := Lib.hid (by
        rw [nmL_take ps k (by rw [HN.out]; exact hlt), jn_next, hO, hM]
        rfl)
      rw [hO] at hc1
      rw [hM] at hc2
      have HCB := Lib.hid (Blk.new wr 53 [.int .i64 (O : Int), .int .i64 (M : Int)])
      have HW1 := Lib.hid (hW.out.alloc (o := .cells #[.int .i64 (O : Int), .int .i64 (M : Int)] 53) hW.out.size)
      have hz1 : (⟨#[44]⟩ : ByteArray).size = 1 := rfl
      obtain ⟨X, hX⟩ : ∃ X, numB O = X := ⟨_, rfl⟩
      obtain ⟨Y, hY⟩ : ∃ Y, numB M = Y := ⟨_, rfl⟩
      have hx : X.size ≤ 19 := by rw [← hX, numB_size]; exact numL_le19 (by omega)
      have hy : Y.size ≤ 19 := by rw [← hY, numB_size]; exact numL_le19 (by omega)
      have HX := Lib.hid hX
      have HY := Lib.hid hY
      have g1 : X.size + 1 ≤ 9223372036854775807 := by omega
      have g2 : X.size + 1 + Y.size ≤ 9223372036854775807 := by omega
      have g3 : t.size + 1 ≤ 9223372036854775807 := by omega
      have g4 : t.size + (X.size + 1 + Y.size) ≤ 9223372036854775807 := by omega
      have g5 : t.size + 1 + (X.size + 1 + Y.size) ≤ 9223372036854775807 := by omega
      have n1 : ¬ 9223372036854775807 ≤ X.size := by omega
      have n1b : ¬ 9223372036854775807 < X.size + 1 := by omega
      have n1c : ¬ 9223372036854775806 < X.size := by omega
      have n2 : ¬ 9223372036854775807 < X.size + 1 + Y.size := by omega
      have n3 : ¬ 9223372036854775807 < t.size + (X.size + 1 + Y.size) := by omega
      have n4 : ¬ 9223372036854775807 < t.size + 1 + (X.size + 1 + Y.size) := by omega
      rw [hX, hY] at HNX
      clear hsm hO hM hX hY
      by_cases hk0 : k = 0
      · have hgt : ¬ (0 : Int) < (k : Int) := by omega
        have HE : Hid (mkS (jn (nmL (ps.take (k + 1)))) = t ++ (X ++ ⟨#[44]⟩ ++ Y)) := Lib.hid (by rw [HNX.out, if_pos (by rw [hk0]; rfl), hT.out])
        clear hk0
        go_wp2
        generalize wr.alloc (.cells #[.int .i64 (O : Int), .int .i64 (M : Int)] 53) = w2 at HCB HW1 ⊢
        generalize wr.heap.size = pb at HCB ⊢
        have c0 : w2.cell? ⟨pb, 0, none⟩ = some (.int .i64 (O : Int)) := by rw [HCB.out.cell]; rfl
        have c1 : w2.cell? ⟨pb, 1, none⟩ = some (.int .i64 (M : Int)) := by rw [HCB.out.cell]; rfl
        have HS0 := Lib.hid (show w2.cell? ⟨pb, 0, none⟩ = some (.int .i64 (O : Int)) ∧ w2.cell? ⟨pb, 1, none⟩ = some (.int .i64 (M : Int)) ∧ pb < w2.heap.size ∧ Below w.heap.size w w2 from ⟨c0, c1, HCB.out.lt, HW1.out⟩)
        go_region_held3 (fun w' => w'.cell? ⟨pb, 0, none⟩ = some (.int .i64 (O : Int)) ∧ w'.cell? ⟨pb, 1, none⟩ = some (.int .i64 (M : Int)) ∧ pb < w'.heap.size ∧ Below w.heap.size w w') (first | exact HS0.out | exact keepS (Nat.le_refl _) hb (by assumption) | assumption | exact keepS0 (by assumption))
          (first
          | (go_at_call 40; refine (number_nat _ _ (by omega)).mono ?_; (first | rw [HX.out] | rw [HY.out]); rintro e w' ⟨rfl, hb⟩))
        have HBW : Hid (Below w.heap.size w w') := Lib.hid (by have hS9 : w'.cell? ⟨pb, 0, none⟩ = some (.int .i64 (O : Int)) ∧ w'.cell? ⟨pb, 1, none⟩ = some (.int .i64 (M : Int)) ∧ pb < w'.heap.size ∧ Below w.heap.size w w' := by assumption
                                                               exact hS9.2.2.2)
        go_wp2
        go_roundw
        case rel => exact ⟨k + 1, _, by omega, by go_num, rfl, Lib.hid HE.out.symm, HBW⟩
        case measure => simp [intOf]; omega
      · have hgt : (0 : Int) < (k : Int) := by omega
        have hne : nmL (ps.take k) ≠ [] := fun h => by
          have := congrArg List.length h
          rw [nmL_len, List.length_take, List.length_nil, HN.out] at this
          omega
        have HE : Hid (mkS (jn (nmL (ps.take (k + 1)))) = t ++ ⟨#[44]⟩ ++ (X ++ ⟨#[44]⟩ ++ Y)) := Lib.hid (by rw [HNX.out, if_neg hne, hT.out])
        clear hk0 hne
        go_wp2
        generalize wr.alloc (.cells #[.int .i64 (O : Int), .int .i64 (M : Int)] 53) = w2 at HCB HW1 ⊢
        generalize wr.heap.size = pb at HCB ⊢
        have c0 : w2.cell? ⟨pb, 0, none⟩ = some (.int .i64 (O : Int)) := by rw [HCB.out.cell]; rfl
        have c1 : w2.cell? ⟨pb, 1, none⟩ = some (.int .i64 (M : Int)) := by rw [HCB.out.cell]; rfl
        have HS0 := Lib.hid (show w2.cell? ⟨pb, 0, none⟩ = some (.int .i64 (O : Int)) ∧ w2.cell? ⟨pb, 1, none⟩ = some (.int .i64 (M : Int)) ∧ pb < w2.heap.size ∧ Below w.heap.size w w2 from ⟨c0, c1, HCB.out.lt, HW1.out⟩)
        go_region_held3 (fun w' => w'.cell? ⟨pb, 0, none⟩ = some (.int .i64 (O : Int)) ∧ w'.cell? ⟨pb, 1, none⟩ = some (.int .i64 (M : Int)) ∧ pb < w'.heap.size ∧ Below w.heap.size w w') (first | exact HS0.out | exact keepS (Nat.le_refl _) hb (by assumption) | assumption | exact keepS0 (by assumption))
          (first
          | (go_at_call 40; refine (number_nat _ _ (by omega)).mono ?_; (first | rw [HX.out] | rw [HY.out]); rintro e w' ⟨rfl, hb⟩))
        have HBW : Hid (Below w.heap.size w w') := Lib.hid (by have hS9 : w'.cell? ⟨pb, 0, none⟩ = some (.int .i64 (O : Int)) ∧ w'.cell? ⟨pb, 1, none⟩ = some (.int .i64 (M : Int)) ∧ pb < w'.heap.size ∧ Below w.heap.size w w' := by assumption
                                                               exact hS9.2.2.2)
        go_wp2
        go_roundw
        case rel => exact ⟨k + 1, _, by omega, by go_num, rfl, Lib.hid HE.out.symm, HBW⟩
        case measure => simp [intOf]; omega
    · obtain rfl : k = n := by omega
      have HT2 : Hid (t = mkS (jn (nmL ps))) := Lib.hid (by rw [hT.out, List.take_of_length_le (by rw [HN.out]; exact Nat.le_refl _)])
      have HNE : Hid (numB ps.length = numB k) := Lib.hid (by rw [HN.out])
      go_wp2_with fail
      refine (number_nat k _ (by omega)).mono ?_
      rintro e w1 ⟨rfl, hb⟩
      have HB1 : Hid (Below w.heap.size w w1) := Lib.hid (hW.out.trans (hb.mono hW.out.size))
      clear hb
      go_wp2
      go_ret
      refine ⟨_, HB1.out.size, rfl, ?_, HB1.out.alloc HB1.out.size _⟩
      unfold map01
      rw [HNE.out, ← HT2.out]
      exact Blk.new _ _ (recsV [(keyNum, numB k), (keyMap, t)])
end Go.Proofs.YtlchagphjmfooaaDoor
