/- readGNUSparseMap1x0 at a text of tokens: read; cut; with a token that is no number. -/
import Derived.Test.YtlchagphjmfooaaDoorRmG
namespace Go.Proofs.YtlchagphjmfooaaDoor
open Go Go.RowKit Go.PlainAid
set_option linter.unusedVariables false

theorem nl_all (M : List (List UInt8)) (h : ∀ l ∈ M, ∀ x ∈ l, x ≠ 10) (Z : List UInt8) : nl (ln M ++ Z) = M.length + nl Z := by rw [nl_append, nl_ln M h]
theorem ln_cons (a : List UInt8) (r : List (List UInt8)) : ln (a :: r) = a ++ 10 :: ln r := rfl
/-- Its first block: the first token, and what stands behind it. -/
theorem first_block {T R : List UInt8} (hT : T.length ≤ 511) (hR : 511 - T.length ≤ R.length) : (T ++ 10 :: R).take 512 = T ++ 10 :: R.take (511 - T.length) := by
  rw [List.take_append, List.take_of_length_le (by omega)]
  obtain ⟨m, hm⟩ : ∃ m, 512 - T.length = m + 1 := ⟨511 - T.length, by omega⟩
  rw [hm, List.take_succ_cons, show 511 - T.length = m by omega]
theorem behind_block {T R : List UInt8} (hT : T.length ≤ 511) : (T ++ 10 :: R).drop 512 = R.drop (511 - T.length) := by
  rw [List.drop_append, List.drop_of_length_le (by omega), List.nil_append]
  obtain ⟨m, hm⟩ : ∃ m, 512 - T.length = m + 1 := ⟨511 - T.length, by omega⟩
  rw [hm, List.drop_succ_cons, show 511 - T.length = m by omega]
theorem blocks_join {T R : List UInt8} (hT : T.length ≤ 511) (k : Nat) : R.take (511 - T.length) ++ ((T ++ 10 :: R).drop 512).take k = R.take (511 - T.length + k) := by
  rw [behind_block hT, ← List.take_add]
theorem nl_join {T R : List UInt8} (hT : T.length ≤ 511) (k : Nat) : nl (R.take (511 - T.length)) + nl (((T ++ 10 :: R).drop 512).take k) = nl (R.take (511 - T.length + k)) := by
  rw [← nl_append, blocks_join hT]
/-- The end of a text of tokens. -/
theorem ln_end : ∀ (M : List (List UInt8)), M ≠ [] → ∃ P, ln M = P ++ [10]
  | [], h => absurd rfl h
  | [a], _ => ⟨a, by simp [ln]⟩
  | a :: b :: r, _ => by
    obtain ⟨P, hP⟩ := ln_end (b :: r) (by simp)
    exact ⟨a ++ 10 :: P, by rw [ln_cons, hP]; simp⟩
/-- A text of tokens that is cut has fewer newlines. -/
theorem nl_cut {M : List (List UInt8)} (hM : ∀ l ∈ M, ∀ x ∈ l, x ≠ 10) {k : Nat} (hk : k < (ln M).length) : nl ((ln M).take k) < M.length := by
  have h1 : nl (ln M) = M.length := nl_ln M hM
  obtain ⟨P, hP⟩ := ln_end M (by intro e; rw [e] at hk; simp [ln] at hk)
  rw [hP] at hk h1 ⊢
  rw [List.length_append, List.length_singleton] at hk
  rw [List.take_append_of_le_length (by omega)]
  have h2 := nl_mono P (a := k) (b := P.length) (by omega)
  rw [List.take_length] at h2
  rw [nl_append] at h1
  have h3 : nl [10] = 1 := rfl
  omega
/-- The tokens T0 (the number n) and L0, behind them Z: what reading ends with. -/
def TokEnd (Br n : Nat) (L0 : List (List UInt8)) (D : List UInt8) (m : Nat) (w : World) (e : Ending) (w' : World) : Prop :=
  ((∀ l ∈ L0, okT l) ∧ ∃ v, e = .returned (.tuple #[v, .nilIface]) ∧ w'.ownsRow w.heap.size 141 2 v n (pcs (prs L0)) ∧ BrAt Br (D.drop (pad m)) w' ∧ Below Br w w') ∨ ((∃ l ∈ L0, ¬ okT l) ∧ RmNo Br w e w')
theorem rmToks {a b c c1 c2 : Addr} (Br n : Nat) (D T Z : List UInt8) (L0 : List (List UInt8)) (m : Nat) (w : World) (hb : BrAt Br D w) (hE : Err Br w 2 a) (hE2 : Err Br w 3 b) (hE3 : Err Br w 0 c) (hE4 : Err Br w 6 c1) (hE5 : Err Br w 7 c2)
    (hD : D = ln (T :: L0) ++ Z) (hm : (ln (T :: L0)).length = m) (hm4 : m ≤ 4020) (hT : ∀ x ∈ T, x ≠ 10) (hT5 : T.length ≤ 500) (hn : Lib.parseIntB 64 T = .ok (n : Int)) (hn1 : n ≤ 100) (hL : L0.length = 2 * n) (hL10 : ∀ l ∈ L0, ∀ x ∈ l, x ≠ 10) (hZ : pad m ≤ D.length) :
    Calls Tryd.prog 67 #[.iface 126 (.pointer (some ⟨Br, 0, none⟩))] w (TokEnd Br n L0 D m w) := by
  obtain ⟨R, hR⟩ : ∃ R, R = ln L0 ++ Z := ⟨_, rfl⟩
  have hDR : D = T ++ 10 :: R := by rw [hD, ln_cons, hR]; simp
  have hm1 : m = T.length + 1 + (ln L0).length := by rw [← hm, ln_cons, List.length_append, List.length_cons]; omega
  have hp1 : 512 ≤ pad m := by unfold pad; omega
  have hDl : D.length = T.length + 1 + R.length := by rw [hDR, List.length_append, List.length_cons]; omega
  have hnR : ∀ k, (ln L0).length ≤ k → 2 * n ≤ nl (R.take k) := by
    intro k hk
    rw [hR, List.take_append, List.take_of_length_le hk, nl_all L0 hL10]
    omega
  have hcall := rmGo Br n 7 D T (R.take (511 - T.length)) w hb hE hE2 hE3 hE4 hE5 (by omega) (by rw [hDR, first_block (by omega) (by omega)]) hT hT5 hn hn1 (by omega)
    (.inr (by rw [hDR, nl_join (by omega)]; exact hnR _ (by omega)))
  refine hcall.mono ?_
  rintro e w' (⟨j, L, E, hj, hmin, hLE, hLl, hLn, hend⟩ | ⟨j, hj, hj2, hlt, hno⟩)
  · rw [hDR, blocks_join (by omega)] at hLE
    have hspl : R = ln L ++ (E ++ R.drop (511 - T.length + 512 * j)) := by rw [← List.append_assoc, ← hLE, List.take_append_drop]
    obtain ⟨e1, e2⟩ := toks_same L L0 _ Z hLn hL10 (by rw [hLl, hL]) (by rw [← hspl, hR])
    subst e1
    have hjm : pad m = 512 * (j + 1) := by
      have h1 : (ln L).length ≤ 511 - T.length + 512 * j := by
        have h := congrArg List.length hLE
        rw [List.length_take, List.length_append] at h
        omega
      have h2 : 512 * j < m := by
        rcases Nat.lt_or_ge (512 * j) m with h | h
        · exact h
        · exfalso
          obtain ⟨i, rfl⟩ : ∃ i, j = i + 1 := ⟨j - 1, by omega⟩
          have h3 := hmin i (by omega)
          rw [hDR, nl_join (by omega)] at h3
          have h4 := hnR (511 - T.length + 512 * i) (by omega)
          omega
      unfold pad
      omega
    rcases hend with ⟨hok, v, he, ho, hbr, hbel⟩ | ⟨hno, hr⟩
    · exact .inl ⟨hok, v, he, ho, by rw [hjm]; exact hbr, hbel⟩
    · exact .inr ⟨hno, hr⟩
  · exfalso
    rw [hDR, nl_join (by omega)] at hlt
    have h1 : ¬ (ln L0).length ≤ 511 - T.length + 512 * j := fun h => by have := hnR _ h; omega
    have h2 : 512 * (j + 2) ≤ pad m := by unfold pad; omega
    omega
/-- The text is cut. -/
theorem rmCut {a b c c1 c2 : Addr} (Br n k : Nat) (D T : List UInt8) (L0 : List (List UInt8)) (m : Nat) (w : World) (hb : BrAt Br D w) (hE : Err Br w 2 a) (hE2 : Err Br w 3 b) (hE3 : Err Br w 0 c) (hE4 : Err Br w 6 c1) (hE5 : Err Br w 7 c2)
    (hD : D = (ln (T :: L0)).take k) (hm : (ln (T :: L0)).length = m) (hk : k < m) (hm4 : m ≤ 4020) (hT : ∀ x ∈ T, x ≠ 10) (hT5 : T.length ≤ 500) (hn : Lib.parseIntB 64 T = .ok (n : Int)) (hn1 : n ≤ 100) (hL : L0.length = 2 * n) (hL10 : ∀ l ∈ L0, ∀ x ∈ l, x ≠ 10) :
    Calls Tryd.prog 67 #[.iface 126 (.pointer (some ⟨Br, 0, none⟩))] w (RmNo Br w) := by
  have hDl : D.length = k := by rw [hD, List.length_take]; omega
  by_cases h5 : D.length < 512
  · exact rmShort Br D w hb hE hE2 h5
  have hcut : nl D < L0.length + 1 := by
    rw [hD]
    exact nl_cut (M := T :: L0) (fun l hl => by rcases List.mem_cons.1 hl with h | h; · rw [h]; exact hT
                                                · exact hL10 l h) (by omega)
  obtain ⟨R, hR⟩ : ∃ R, R = (ln L0).take (k - T.length - 1) := ⟨_, rfl⟩
  have hDR : D = T ++ 10 :: R := by
    rw [hD, ln_cons, List.take_append, List.take_of_length_le (by omega)]
    obtain ⟨q, hq⟩ : ∃ q, k - T.length = q + 1 := ⟨k - T.length - 1, by omega⟩
    rw [hR, hq, List.take_succ_cons, Nat.add_sub_cancel]
  have hDl2 : D.length = T.length + 1 + R.length := by rw [hDR, List.length_append, List.length_cons]; omega
  rw [hDR, nl_tok hT] at hcut
  have hcall := rmGo Br n 7 D T (R.take (511 - T.length)) w hb hE hE2 hE3 hE4 hE5 (by omega) (by rw [hDR, first_block (by omega) (by omega)]) hT hT5 hn hn1 (by omega)
    (.inl (by rw [List.length_drop]; omega))
  refine hcall.mono ?_
  rintro e w' (⟨j, L, E, hj, hmin, hLE, hLl, hLn, hend⟩ | ⟨j, hj, hj2, hlt, hno⟩)
  · exfalso
    rw [hDR, blocks_join (by omega)] at hLE
    have h1 := congrArg nl hLE
    rw [nl_all L hLn] at h1
    have h2 := nl_mono R (a := 511 - T.length + 512 * j) (b := max (511 - T.length + 512 * j) R.length) (by omega)
    rw [List.take_of_length_le (i := max (511 - T.length + 512 * j) R.length) (by omega)] at h2
    omega
  · exact hno
/-- The first token is no number. -/
theorem rmBad {a b c c1 c2 : Addr} (Br : Nat) (D T R : List UInt8) (w : World) (hb : BrAt Br D w) (hE : Err Br w 2 a) (hE2 : Err Br w 3 b) (hE3 : Err Br w 0 c) (hE4 : Err Br w 6 c1) (hE5 : Err Br w 7 c2)
    (hD : D = T ++ 10 :: R) (hT : ∀ x ∈ T, x ≠ 10) (hT5 : T.length ≤ 500) (hD5 : 512 ≤ D.length) (hno : ¬ okT T) :
    Calls Tryd.prog 67 #[.iface 126 (.pointer (some ⟨Br, 0, none⟩))] w (RmNo Br w) := by
  have hDl : D.length = T.length + 1 + R.length := by rw [hD, List.length_append, List.length_cons]; omega
  exact rmFirst Br D T (R.take (511 - T.length)) w hb hE hE2 hE3 hE4 hE5 hD5 (by rw [hD, first_block (by omega) (by omega)]) hT hno
end Go.Proofs.YtlchagphjmfooaaDoor
