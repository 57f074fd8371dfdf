/- A map in front of the data: read; cut; with another sign. -/
import Derived.Test.YtlchagphjmfooaaDoorZ10
namespace Go.Proofs.YtlchagphjmfooaaDoor
open Go Go.RowKit Go.PlainAid
set_option linter.unusedVariables false

/-- The five sentinels that reading may answer. -/
structure Errs5 (w : World) : Prop where
  eof : ∃ a, Err w.heap.size w 2 a
  unx : ∃ a, Err w.heap.size w 3 a
  hdr : ∃ a, Err w.heap.size w 0 a
  syn : ∃ a, Err w.heap.size w 6 a
  rng : ∃ a, Err w.heap.size w 7 a
theorem Err.up {B C : Nat} {w : World} {g : Nat} {a : Addr} (h : Err B w g a) (hB : B ≤ C) : Err C w g a := ⟨h.cell, h.blk, Nat.lt_of_lt_of_le h.lg hB, Nat.lt_of_lt_of_le h.la hB⟩
theorem Err.to {w w1 : World} {Br g : Nat} {a : Addr} (h : Err w.heap.size w g a) (hb : Below w.heap.size w w1) (hB : w.heap.size ≤ Br) : Err Br w1 g a := (h.below hb (Nat.le_refl _)).up hB
theorem numL_no10 (n : Nat) : ∀ x ∈ numL n, x ≠ 10 := by
  intro x hx h
  have h1 := numL_dig n x hx
  rw [h] at h1
  unfold dig at h1
  have e : (10 : UInt8).toNat = 10 := rfl
  omega
theorem nmL_no10 (ps : List (Int × Int)) : ∀ l ∈ nmL ps, ∀ x ∈ l, x ≠ 10 := by
  intro l hl
  obtain ⟨n, rfl⟩ := nmL_mem ps l hl
  exact numL_no10 n
theorem parse_numL (m : Nat) (hm : m ≤ 9223372036854775807) : Lib.parseIntB 64 (numL m) = .ok (m : Int) := by
  have h := parse_num m hm
  have e : (numB m).data.toList = numL m := by rw [← mkS_numL, mkS_list]
  rwa [e] at h
theorem pv_numL (m : Nat) (hm : m ≤ 9223372036854775807) : pv (numL m) = (m : Int) := by
  unfold pv
  rw [parse_numL m hm]
def SmallR (ps : List (Int × Int)) : Prop := ∀ p ∈ ps, 0 ≤ p.1 ∧ p.1 ≤ 1000000 ∧ 0 ≤ p.2 ∧ p.2 ≤ 1000000
theorem SmallP.r {ps : List (Int × Int)} (h : SmallP ps) : SmallR ps := by
  intro p hp
  obtain ⟨k, hk, rfl⟩ := List.getElem_of_mem hp
  have h1 := h.2 k hk
  simp [po, pl, List.getD, hk] at h1
  exact h1
theorem prs_nmL : ∀ (ps : List (Int × Int)), SmallR ps → prs (nmL ps) = ps
  | [], _ => rfl
  | (x, y) :: r, h => by
    have h1 := h (x, y) (by simp)
    show (pv (numL x.toNat), pv (numL y.toNat)) :: prs (nmL r) = _
    rw [prs_nmL r (fun p hp => h p (by simp [hp])), pv_numL _ (by omega), pv_numL _ (by omega)]
    simp only at h1
    rw [show ((x.toNat : Nat) : Int) = x by omega, show ((y.toNat : Nat) : Int) = y by omega]
theorem okT_nmL : ∀ (ps : List (Int × Int)), SmallR ps → ∀ l ∈ nmL ps, okT l
  | [], _, l, hl => by simp [nmL] at hl
  | (x, y) :: r, h, l, hl => by
    have h1 := h (x, y) (by simp)
    simp only at h1
    rcases List.mem_cons.1 (show l ∈ numL x.toNat :: numL y.toNat :: nmL r from hl) with e | hl
    · rw [e]; exact ⟨_, parse_numL _ (by omega)⟩
    · rcases List.mem_cons.1 hl with e | hl
      · rw [e]; exact ⟨_, parse_numL _ (by omega)⟩
      · exact okT_nmL r (fun p hp => h p (by simp [hp])) l hl
/-- How long the text of a map is. -/
def tl (ps : List (Int × Int)) : Nat := (ln (toks ps.length ps)).length
theorem map10_len (ps : List (Int × Int)) : (map10 ps).length = pad (tl ps) := by
  unfold map10
  rw [List.length_append, length_zbs]
  have := pad_ge (tl ps)
  unfold tl at *
  omega
theorem tl_le {ps : List (Int × Int)} (h : SmallP ps) : tl ps ≤ 4020 := toks_le h h.1
theorem tl_pos (ps : List (Int × Int)) : 0 < tl ps := by
  unfold tl toks
  rw [ln_cons, List.length_append, List.length_cons]
  omega
theorem map10_take (ps : List (Int × Int)) {k : Nat} (hk : k ≤ tl ps) : (map10 ps).take k = (ln (toks ps.length ps)).take k := by
  unfold map10
  rw [List.take_append_of_le_length hk]
theorem rdYes_map10 (ps : List (Int × Int)) (Z : List UInt8) (w : World) (hS : SmallP ps) (hE : Errs5 w) : RdYes ps (map10 ps ++ Z) Z w := by
  intro w1 Br hb hB hbr
  obtain ⟨a, ha⟩ := hE.eof
  obtain ⟨b, hb'⟩ := hE.unx
  obtain ⟨c, hc⟩ := hE.hdr
  obtain ⟨c1, hc1⟩ := hE.syn
  obtain ⟨c2, hc2⟩ := hE.rng
  have h1 := hS.1
  refine (rmToks Br ps.length (map10 ps ++ Z) (numL ps.length) (zbs (pad (tl ps) - tl ps) ++ Z) (nmL ps) (tl ps) w1 hbr (ha.to hb hB) (hb'.to hb hB) (hc.to hb hB) (hc1.to hb hB) (hc2.to hb hB)
    (by unfold map10 tl; rw [List.append_assoc]; rfl) rfl (tl_le hS) (numL_no10 _) (by have := numL_le19 (n := ps.length) (by omega); omega) (parse_numL _ (by omega)) h1 (by rw [nmL_len]; omega) (nmL_no10 ps) (by rw [List.length_append, map10_len]; omega)).mono ?_
  rintro e w' (⟨_, v, he, ho, hr, hbl⟩ | ⟨⟨l, hl, hno⟩, _⟩)
  · rw [prs_nmL ps hS.r] at ho
    rw [List.drop_append, List.drop_of_length_le (by rw [map10_len]; omega), map10_len, Nat.sub_self, List.nil_append, List.drop_zero] at hr
    exact ⟨v, he, ho, hr, hbl⟩
  · exact absurd (okT_nmL ps hS.r l hl) hno
theorem rdNo_cut (ps : List (Int × Int)) (k : Nat) (w : World) (hS : SmallP ps) (hk : k < tl ps) (hE : Errs5 w) : RdNo ((map10 ps).take k) w := by
  intro w1 Br hb hB hbr
  obtain ⟨a, ha⟩ := hE.eof
  obtain ⟨b, hb'⟩ := hE.unx
  obtain ⟨c, hc⟩ := hE.hdr
  obtain ⟨c1, hc1⟩ := hE.syn
  obtain ⟨c2, hc2⟩ := hE.rng
  have h1 := hS.1
  exact rmCut Br ps.length k _ (numL ps.length) (nmL ps) (tl ps) w1 hbr (ha.to hb hB) (hb'.to hb hB) (hc.to hb hB) (hc1.to hb hB) (hc2.to hb hB)
    (map10_take ps (by omega)) rfl hk (tl_le hS) (numL_no10 _) (by have := numL_le19 (n := ps.length) (by omega); omega) (parse_numL _ (by omega)) h1 (by rw [nmL_len]; omega) (nmL_no10 ps)
/-- A sign that no number has. -/
def odd (c : UInt8) : Prop := ¬ (48 ≤ c.toNat ∧ c.toNat ≤ 57) ∧ c ≠ 10 ∧ c.toNat ≠ 43 ∧ c.toNat ≠ 45
theorem odd_bad {t d : List UInt8} {c : UInt8} (hc : odd c) (hd : allDig d) (hm : c ∈ t) (ht : ∀ x ∈ t, x = c ∨ x ∈ d) : ¬ okT t := by
  rintro ⟨v, hv⟩
  refine intB_bad (l := t) (by intro e; rw [e] at hm; cases hm) ?_ (fun h => hc.1 (h c hm)) v hv
  intro x hx
  have hx' : x ∈ t := List.mem_of_mem_head? hx
  rcases ht x hx' with e | h
  · rw [e]; exact ⟨hc.2.2.1, hc.2.2.2⟩
  · have := hd x h
    unfold dig at this
    omega
/-- A sign of a token is another one: the tokens. -/
theorem ln_set : ∀ (M : List (List UInt8)) (k : Nat) (c : UInt8), (∀ l ∈ M, allDig l) → k < (ln M).length → (ln M)[k]? ≠ some 10 → odd c → ∃ i t, i < M.length ∧ (ln M).set k c = ln (M.set i t) ∧ t.length = (M.getD i []).length ∧ (∀ x ∈ t, x ≠ 10) ∧ ¬ okT t
  | [], k, c, _, hk, _, _ => by simp [ln] at hk
  | a :: r, k, c, hd, hk, h10, hc => by
    rw [ln_cons] at hk h10 ⊢
    rcases Nat.lt_trichotomy k a.length with h | h | h
    · refine ⟨0, a.set k c, by simp, ?_, by simp, ?_, ?_⟩
      · rw [List.set_append_left _ _ h]
        rfl
      · intro x hx
        rcases List.mem_or_eq_of_mem_set hx with h1 | h1
        · intro e
          have h2 := hd a (by simp) x h1
          rw [e] at h2
          unfold dig at h2
          have e10 : (10 : UInt8).toNat = 10 := rfl
          omega
        · rw [h1]; exact hc.2.1
      · refine odd_bad (d := a) hc (hd a (by simp)) (List.mem_set h c) ?_
        intro x hx
        rcases List.mem_or_eq_of_mem_set hx with h1 | h1
        · exact .inr h1
        · exact .inl h1
    · exfalso
      apply h10
      rw [List.getElem?_append_right (by omega), h, Nat.sub_self]
      rfl
    · obtain ⟨q, rfl⟩ : ∃ q, k = a.length + (q + 1) := ⟨k - a.length - 1, by omega⟩
      rw [List.getElem?_append_right (by omega), show a.length + (q + 1) - a.length = q + 1 by omega, List.getElem?_cons_succ] at h10
      obtain ⟨i, t, hi, e, h1, h2, h3⟩ := ln_set r q c (fun l hl => hd l (by simp [hl])) (by rw [List.length_append, List.length_cons] at hk; omega) h10 hc
      refine ⟨i + 1, t, by simpa using hi, ?_, by simpa using h1, h2, h3⟩
      rw [List.set_append_right _ _ (by omega), show a.length + (q + 1) - a.length = q + 1 by omega, List.set_cons_succ, e]
      rfl
theorem toks_dig (n : Nat) (ps : List (Int × Int)) : ∀ l ∈ toks n ps, allDig l := by
  intro l hl
  unfold toks at hl
  rcases List.mem_cons.1 hl with e | hl
  · rw [e]; exact numL_dig n
  · obtain ⟨m, rfl⟩ := nmL_mem ps l hl
    exact numL_dig m
theorem rdNo_set (ps : List (Int × Int)) (k : Nat) (c : UInt8) (w : World) (hS : SmallP ps) (hk : k < tl ps) (h10 : (map10 ps)[k]? ≠ some 10) (hc : odd c) (hE : Errs5 w) : RdNo ((map10 ps).set k c) w := by
  intro w1 Br hb hB hbr
  obtain ⟨a, ha⟩ := hE.eof
  obtain ⟨b, hb'⟩ := hE.unx
  obtain ⟨c0, hc0⟩ := hE.hdr
  obtain ⟨c1, hc1⟩ := hE.syn
  obtain ⟨c2, hc2⟩ := hE.rng
  have h1 := hS.1
  have hml := map10_len ps
  have htl := tl_le hS
  have hp5 : 512 ≤ pad (tl ps) := by have := tl_pos ps; unfold pad; omega
  have hset : (map10 ps).set k c = (ln (toks ps.length ps)).set k c ++ zbs (pad (tl ps) - tl ps) := by
    unfold map10
    rw [List.set_append_left _ _ hk]
    rfl
  have h10' : (ln (toks ps.length ps))[k]? ≠ some 10 := by
    intro e
    apply h10
    unfold map10
    rw [List.getElem?_append_left hk]
    exact e
  obtain ⟨i, t, hi, e, ht1, ht2, ht3⟩ := ln_set (toks ps.length ps) k c (toks_dig _ _) hk h10' hc
  have hlt : (ln ((toks ps.length ps).set i t)).length = tl ps := by rw [← e, List.length_set]; rfl
  have ht5 : t.length ≤ 500 := by
    have h2 : t.length ≤ 19 := by
      rw [ht1]
      have hm := getD_mem (toks ps.length ps) i hi
      generalize (toks ps.length ps).getD i [] = u at hm
      unfold toks at hm
      rcases List.mem_cons.1 hm with e | hl
      · rw [e]; exact numL_le19 (by omega)
      · exact SmallP.mem hS u hl
    omega
  rw [hset, e] at hbr
  cases i with
  | zero =>
    refine rmBad Br _ t (ln (nmL ps) ++ zbs (pad (tl ps) - tl ps)) w1 hbr (ha.to hb hB) (hb'.to hb hB) (hc0.to hb hB) (hc1.to hb hB) (hc2.to hb hB) ?_ ht2 ht5 ?_ ht3
    · show (t ++ 10 :: ln (nmL ps)) ++ _ = _
      simp
    · rw [List.length_append, hlt, length_zbs]; omega
  | succ i =>
    have hsl : (toks ps.length ps).set (i + 1) t = numL ps.length :: (nmL ps).set i t := rfl
    rw [hsl] at hbr hlt
    refine (rmToks Br ps.length _ (numL ps.length) (zbs (pad (tl ps) - tl ps)) ((nmL ps).set i t) (tl ps) w1 hbr (ha.to hb hB) (hb'.to hb hB) (hc0.to hb hB) (hc1.to hb hB) (hc2.to hb hB)
      rfl hlt htl (numL_no10 _) (by have := numL_le19 (n := ps.length) (by omega); omega) (parse_numL _ (by omega)) h1 (by rw [List.length_set, nmL_len]; omega) ?_ (by rw [List.length_append, hlt, length_zbs]; omega)).mono ?_
    · intro l hl
      rcases List.mem_or_eq_of_mem_set hl with h | h
      · exact nmL_no10 ps l h
      · rw [h]; exact ht2
    · rintro e w' (⟨hok, _⟩ | ⟨_, hno⟩)
      · refine absurd (hok t (List.mem_set ?_ t)) ht3
        unfold toks at hi
        simpa using hi
      · exact hno
/-- Where the noughts begin. -/
theorem map10_last (ps : List (Int × Int)) : (map10 ps)[tl ps - 1]? = some 10 := by
  obtain ⟨P, hP⟩ := ln_end (toks ps.length ps) (by unfold toks; simp)
  have hl : tl ps = P.length + 1 := by unfold tl; rw [hP, List.length_append]; rfl
  unfold map10
  rw [List.getElem?_append_left (by rw [hP, List.length_append, List.length_singleton]; omega), hP, hl, Nat.add_sub_cancel, List.getElem?_append_right (Nat.le_refl _), Nat.sub_self]
  rfl
theorem map10_zero (ps : List (Int × Int)) (i : Nat) (h : tl ps ≤ i) (h2 : i < (map10 ps).length) : (map10 ps)[i]? = some 0 := by
  rw [map10_len] at h2
  unfold map10
  rw [List.getElem?_append_right h]
  unfold zbs
  rw [List.getElem?_replicate, if_pos]
  unfold tl at *
  omega
end Go.Proofs.YtlchagphjmfooaaDoor
