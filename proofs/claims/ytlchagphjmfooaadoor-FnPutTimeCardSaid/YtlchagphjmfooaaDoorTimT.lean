/- Times as texts: plain words; the walk of spec.PutTime. -/
import Derived.Test.YtlchagphjmfooaaDoorTimL
namespace Go.Proofs.YtlchagphjmfooaaDoor
open Go.RowKit Go.PlainAid
set_option linter.unusedVariables false

/-- A time as a text: a sign, seconds, perhaps a point and digits. -/
structure TimText (T : ByteArray) (b : Bool) (W N : Nat) (P : List UInt8) : Prop where
  eq : T.data.toList = (if b = true then [45] else []) ++ numL W ++ (if P = [] then [] else 46 :: P)
  dg : allDig P
  nan : nano P = N
theorem TimText.minus {T : ByteArray} {b : Bool} {W N : Nat} {P : List UInt8} (h : TimText T b W N P) : ∃ u : ByteArray, Minus T u b ∧ u.data.toList = numL W ++ (if P = [] then [] else 46 :: P) := by
  have e := h.eq
  have hp := numL_pos W
  cases b with
  | true =>
    rw [if_pos rfl, List.append_assoc] at e
    have e' : T.data.toList = 45 :: (numL W ++ (if P = [] then [] else 46 :: P)) := e
    have hs : 0 < T.size := by rw [← sz_l, e']; simp
    obtain ⟨c, r, h1, h2, h3⟩ := list_head T hs
    rw [e'] at h1
    obtain ⟨rfl, rfl⟩ := List.cons.inj h1
    exact ⟨_, .inl ⟨rfl, hs, h2, rfl⟩, h3⟩
  | false =>
    rw [if_neg (by decide), List.nil_append] at e
    have hs : 0 < T.size := by rw [← sz_l, e, List.length_append]; omega
    obtain ⟨c, r, h1, h2, h3⟩ := list_head T hs
    have h45 : bt T 0 ≠ 45 := ?_
    · exact ⟨T, .inr ⟨rfl, hs, h45, rfl⟩, e⟩
    have hc : c ∈ numL W := by
      cases hl : numL W with
      | nil => rw [hl] at hp; simp at hp
      | cons c' r' =>
        rw [e, hl, List.cons_append] at h1
        rw [(List.cons.inj h1).1]
        simp
    have := numL_dig W c hc
    unfold dig at this
    omega
theorem findIdx_none46 (W : Nat) : (numL W).findIdx (· == 46) = (numL W).length := by
  rw [List.findIdx_eq_length]
  intro x hx
  have := numL_dig W x hx
  unfold dig at this
  have h2 : x ≠ 46 := fun e => by rw [e] at this; have : (46 : UInt8).toNat = 46 := rfl; omega
  simpa using h2
theorem cut_text {u : ByteArray} {W : Nat} {P : List UInt8} (h : u.data.toList = numL W ++ (if P = [] then [] else 46 :: P)) : cutH 46 u = numB W ∧ (cutT 46 u).data.toList = P ∧ (P = [] → cutB 46 u = false) := by
  have hne : ∀ x ∈ numL W, x ≠ 46 := fun x hx e => by
    have := numL_dig W x hx
    unfold dig at this
    rw [e] at this
    have e2 : (46 : UInt8).toNat = 46 := rfl
    omega
  by_cases hP : P = []
  · rw [if_pos hP, List.append_nil] at h
    have hf := findIdx_none46 W
    refine ⟨ba_ext ?_, ?_, fun _ => ?_⟩
    · rw [cutH_list, h, hf, List.take_length]
      exact (numB_list W).symm
    · rw [cutT_list, h, hf, hP]
      exact List.drop_eq_nil_of_le (by omega)
    · unfold cutB fc
      apply decide_eq_false
      rw [h, hf, ← sz_l, h]
      omega
  · rw [if_neg hP] at h
    have hf := findIdx_pre (numL W) P 46 hne
    refine ⟨ba_ext ?_, ?_, fun h2 => absurd h2 hP⟩
    · rw [cutH_list, h, hf, List.take_left' rfl]
      exact (numB_list W).symm
    · rw [cutT_list, h, hf, ← List.drop_drop, List.drop_left' rfl]
      rfl
theorem decOk_num {W : Nat} (h : W ≤ 9223372036854775807) : DecOk (numB W) := by
  refine ⟨by rw [numB_size]; exact numL_pos W, by rw [numB_size]; exact numL_le19 h, by rw [numB_list]; exact numL_dig W, by rw [numB_list, numL_vl]; exact h⟩
/-- What the program reads of such a text. -/
theorem TimText.timP {T : ByteArray} {b : Bool} {W N : Nat} {P : List UInt8} (h : TimText T b W N P) (hW : W ≤ 9223372036854775807) : Go.Proofs.YtlchagphjmfooaaDoor.timP (cutH 46 T) (cutT 46 T) = some (secV b W N, nsV b N) := by
  obtain ⟨u, hm, hu⟩ := h.minus
  obtain ⟨e1, e2, e3⟩ := cut_text hu
  have ht : (cutT 46 u).size = 0 ∨ DigOk (cutT 46 u) := by
    by_cases h0 : (cutT 46 u).size = 0
    · exact .inl h0
    · exact .inr ⟨by omega, by rw [e2]; exact h.dg⟩
  have := timP_right hm (by rw [e1]; exact decOk_num hW) ht
  rw [this, e1, e2, numB_list, numL_vl, h.nan]
/-- What the documents read of such a text. -/
theorem TimText.spec {T : ByteArray} {b : Bool} {W N : Nat} {P : List UInt8} (h : TimText T b W N P) (hW : W < 1000000000000000000) (hT : T.size ≤ 2147483647) (hP : P.length ≤ 9) (w : World) :
    Calls Tryd.prog 18 #[.string T] w (STim (secV b W N) (nsV b N) 1 w) := by
  obtain ⟨u, hm, hu⟩ := h.minus
  obtain ⟨e1, e2, e3⟩ := cut_text hu
  have ht : ((cutT 46 u).size = 0 ∧ cutB 46 u = false) ∨ DigOk (cutT 46 u) := by
    by_cases h0 : (cutT 46 u).size = 0
    · exact .inl ⟨h0, e3 (by rw [← e2]; exact List.eq_nil_of_length_eq_zero (by rw [sz_l]; exact h0))⟩
    · exact .inr ⟨by omega, by rw [e2]; exact h.dg⟩
  have h18 : (cutH 46 u).size ≤ 18 := by
    rw [e1, numB_size]
    rcases Nat.lt_or_ge 18 (numL W).length with h1 | h1
    · have h10 : 10 ≤ W := by
        rcases Nat.lt_or_ge W 10 with h2 | h2
        · rw [numL_small h2] at h1; simp at h1
        · exact h2
      have g := numL_ge W h10
      have := Nat.pow_le_pow_right (n := 10) (by omega) (show 18 ≤ (numL W).length - 1 by omega)
      have e : (10 : Nat) ^ 18 = 1000000000000000000 := by decide
      omega
    · exact h1
  have := specTim_right T u w hT hm (by rw [e1]; exact decOk_num (by omega)) h18 ht (fun j h1 h2 => by rw [← sz_l, e2] at h2; omega)
  rw [e1, e2, numB_list, numL_vl, h.nan] at this
  exact this

/-! ### The nine digits behind 10^9 -/
def nineB (N : Nat) : ByteArray := (numB (1000000000 + N)).extract 1 (numB (1000000000 + N)).size
theorem ten_digits (N : Nat) (h : N < 1000000000) : (numL (1000000000 + N)).length = 10 := by
  have := numL_len (n := 1000000000 + N) (k := 9) (by have : (10 : Nat) ^ 9 = 1000000000 := by decide
                                                      omega) (by have : (10 : Nat) ^ (9 + 1) = 10000000000 := by decide
                                                                 omega)
  exact this
theorem vl_acc : ∀ (l : List UInt8) (acc : Nat), vl acc l = acc * 10 ^ l.length + vl 0 l
  | [], acc => by simp [vl]
  | c :: l, acc => by
    rw [vl_cons, vl_acc l, vl_cons 0, vl_acc l (0 * 10 + (c.toNat - 48)), List.length_cons, Nat.pow_succ]
    have e : (acc * 10 + (c.toNat - 48)) * 10 ^ l.length = acc * (10 ^ l.length * 10) + (0 * 10 + (c.toNat - 48)) * 10 ^ l.length := by
      rw [Nat.add_mul, Nat.mul_assoc, Nat.mul_comm 10, Nat.zero_mul, Nat.zero_add]
    omega
theorem nineB_ok (N : Nat) (h : N < 1000000000) : (nineB N).size = 9 ∧ allDig (nineB N).data.toList ∧ nano (nineB N).data.toList = N := by
  have hl := ten_digits N h
  have e0 : (nineB N).data.toList = (numL (1000000000 + N)).drop 1 := by
    unfold nineB
    rw [Lib.extract_data, numB_list, List.take_of_length_le]
    rw [List.length_drop, hl, numB_size, hl]
    omega
  have hs : (nineB N).data.toList.length = 9 := by rw [e0, List.length_drop, hl]
  have hd : allDig (nineB N).data.toList := by
    rw [e0]
    intro c hc
    exact numL_dig _ c (List.mem_of_mem_drop hc)
  refine ⟨by rw [← sz_l]; exact hs, hd, ?_⟩
  rw [nano_nine hs]
  have hv := numL_vl (1000000000 + N)
  cases hc : numL (1000000000 + N) with
  | nil => rw [hc] at hl; simp at hl
  | cons c r =>
    rw [hc] at e0 hv hl
    have hr : (nineB N).data.toList = r := e0
    rw [hr] at hs hd ⊢
    rw [vl_cons, vl_acc, hs] at hv
    have hb := vl_bound r 0 hd
    rw [hs] at hb
    have e9 : (10 : Nat) ^ 9 = 1000000000 := by decide
    rw [e9] at hv hb
    omega
def PartOk9 (p : ByteArray) (N : Nat) : Prop := allDig p.data.toList ∧ nano p.data.toList = N
theorem part_trim {p : ByteArray} {N : Nat} (h : PartOk9 p N) (hs : 0 < p.size) (h0 : bt p (p.size - 1) = 48) : PartOk9 (p.extract 0 (p.size - 1)) N := by
  obtain ⟨c, e1, e2⟩ := bt_of p (p.size - 1) (by omega)
  have hc : c = 48 := UInt8.toNat_inj.1 (by have : (48 : UInt8).toNat = 48 := rfl; omega)
  have hl : p.data.toList = (p.extract 0 (p.size - 1)).data.toList ++ List.replicate 1 48 := by
    have h1 : p.data.toList.length = p.size := sz_l p
    obtain ⟨_, e3⟩ := List.getElem?_eq_some_iff.1 e1
    rw [Lib.extract_data, List.drop_zero, Nat.sub_zero]
    have e4 := List.take_succ_eq_append_getElem (l := p.data.toList) (i := p.size - 1) (by omega)
    rw [e3, hc] at e4
    have e5 : p.data.toList.take (p.size - 1 + 1) = p.data.toList := List.take_of_length_le (by omega)
    rw [e5] at e4
    exact e4
  obtain ⟨a, b⟩ := h
  refine ⟨fun c hc => a c (by rw [hl]; exact List.mem_append_left _ hc), ?_⟩
  rw [hl, nano_zeros] at b
  exact b
theorem part_more {p : ByteArray} {N : Nat} (h : PartOk9 p N) : PartOk9 (p ++ ⟨#[48]⟩) N := by
  obtain ⟨a, b⟩ := h
  have e : (p ++ ⟨#[48]⟩).data.toList = p.data.toList ++ List.replicate 1 48 := by rw [app_list]; rfl
  constructor
  · intro c hc
    rw [e] at hc
    rcases List.mem_append.1 hc with h1 | h1
    · exact a c h1
    · rw [(List.mem_replicate.1 h1).2]; unfold dig; decide
  · rw [e, nano_zeros]; exact b
end Go.Proofs.YtlchagphjmfooaaDoor
