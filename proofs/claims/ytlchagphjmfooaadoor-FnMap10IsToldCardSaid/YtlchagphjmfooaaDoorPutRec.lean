/- The walk of spec.PutRecord. -/
import Derived.Test.YtlchagphjmfooaaDoorNumW
namespace Go.Proofs.YtlchagphjmfooaaDoor
open Go.RowKit Go.PlainAid
set_option linter.unusedVariables false

/-- What stands behind the number. -/
def recR (k v : ByteArray) : ByteArray := ⟨#[32]⟩ ++ k ++ ⟨#[61]⟩ ++ v ++ ⟨#[10]⟩
theorem recR_size (k v : ByteArray) : (recR k v).size = k.size + v.size + 3 := by
  unfold recR
  simp only [ByteArray.size_append]
  have h1 : (⟨#[32]⟩ : ByteArray).size = 1 := rfl
  have h2 : (⟨#[61]⟩ : ByteArray).size = 1 := rfl
  have h3 : (⟨#[10]⟩ : ByteArray).size = 1 := rfl
  omega
theorem numB_size (n : Nat) : (numB n).size = (numL n).length := by
  rw [Lib.size_eq]; rfl
/-- A width that fits is among the first eleven. -/
theorem width_exists (L : Nat) (h1 : 1 ≤ L) (h2 : L < 10000000000) : ∃ j, 1 ≤ j ∧ j ≤ 11 ∧ (numL (L + j)).length = j := by
  obtain ⟨a, ha⟩ : ∃ a, (numL L).length = a + 1 := ⟨(numL L).length - 1, by have := numL_pos L; omega⟩
  have lt := numL_lt L
  rw [ha] at lt
  have ge : 10 ^ a ≤ L := by
    by_cases h : 10 ≤ L
    · have := numL_ge L h; rwa [ha] at this
    · have e : (numL L).length = 1 := by rw [numL_small (by omega)]; rfl
      have : a = 0 := by omega
      subst this
      omega
  have ha9 : a ≤ 9 := by
    rcases Nat.lt_or_ge 9 a with h | h
    · have := Nat.pow_le_pow_right (n := 10) (by omega) h
      have e : (10 : Nat) ^ 10 = 10000000000 := by decide
      have : 10 ^ (9 + 1) ≤ 10 ^ a := this
      omega
    · exact h
  have big : 10 ^ (a + 1) + (a + 2) ≤ 10 ^ (a + 2) := by
    have e : (10 : Nat) ^ (a + 2) = 10 ^ (a + 1) * 10 := Nat.pow_succ ..
    have p : a + 1 < 10 ^ (a + 1) := Nat.lt_pow_self (by omega)
    omega
  by_cases c : L + (a + 1) < 10 ^ (a + 1)
  · exact ⟨a + 1, by omega, by omega, numL_len (by omega) c⟩
  · exact ⟨a + 2, by omega, by omega, numL_len (k := a + 1) (by omega) (by omega)⟩
def OutOk (R o : ByteArray) (k : Nat) : Prop := (o = ⟨#[]⟩ ∧ ∀ j, 1 ≤ j → j < k → (numL (R.size + j)).length ≠ j) ∨ ∃ j, 1 ≤ j ∧ j < k ∧ (numL (R.size + j)).length = j ∧ o = numB (R.size + j) ++ R
def PutPost (R : ByteArray) (w : World) (e : Ending) (w' : World) : Prop := (∃ j, 1 ≤ j ∧ j ≤ 18 ∧ (numL (R.size + j)).length = j ∧ e = .returned (.string (numB (R.size + j) ++ R))) ∧ Below w.heap.size w w'
theorem outOk_end {R o : ByteArray} (h : OutOk R o 19) (h1 : 1 ≤ R.size) (h2 : R.size < 10000000000) : ∃ j, 1 ≤ j ∧ j ≤ 18 ∧ (numL (R.size + j)).length = j ∧ o = numB (R.size + j) ++ R := by
  rcases h with ⟨_, h⟩ | ⟨j, a, b, c, d⟩
  · obtain ⟨j, a, b, c⟩ := width_exists R.size h1 h2
    exact absurd c (h j a (by omega))
  · exact ⟨j, a, by omega, c, d⟩
theorem outOk_no {R o : ByteArray} {k : Nat} (h : OutOk R o k) (hn : (numL (R.size + k)).length ≠ k) : OutOk R o (k + 1) := by
  rcases h with ⟨e, h⟩ | ⟨j, a, b, c, d⟩
  · refine .inl ⟨e, fun j h1 h2 => ?_⟩
    by_cases e2 : j = k
    · rw [e2]; exact hn
    · exact h j h1 (by omega)
  · exact .inr ⟨j, a, by omega, c, d⟩
theorem outOk_keep {R o : ByteArray} {k : Nat} (h : OutOk R o k) (hn : ¬ o.size = 0) : OutOk R o (k + 1) := by
  rcases h with ⟨e, h⟩ | ⟨j, a, b, c, d⟩
  · rw [e] at hn; exact absurd rfl hn
  · exact .inr ⟨j, a, by omega, c, d⟩
theorem outOk_yes {R : ByteArray} {k : Nat} (hk : 1 ≤ k) (hn : (numL (R.size + k)).length = k) : OutOk R (numB (R.size + k) ++ R) (k + 1) := .inr ⟨k, hk, by omega, hn, rfl⟩

theorem empty_yes' {h : ByteArray} (h0 : h.size = 0) : h.toList = [] ∧ h.toList.isEmpty = true := by
  have e := Lib.size_eq h
  have : h.toList = [] := by rw [Lib.toList_data]; exact List.eq_nil_of_length_eq_zero (by omega)
  exact ⟨this, by rw [this]; rfl⟩
theorem empty_no' {h : ByteArray} (h0 : ¬ h.size = 0) : ¬ h.toList = [] ∧ h.toList.isEmpty = false := by
  have e := Lib.size_eq h
  have : ¬ h.toList = [] := by rw [Lib.toList_data]; intro hh; rw [hh] at e; exact h0 e
  exact ⟨this, by cases hl : h.toList with
    | nil => exact absurd hl this
    | cons x l => rfl⟩
set_option maxRecDepth 20000 in
set_option maxHeartbeats 1600000 in
theorem specPut (k v : ByteArray) (long : Bool) (w : World) (hk : k.size ≤ 2147483647) (hv : v.size ≤ 2147483647) :
    Calls Tryd.prog 17 #[.agg #[.string k, .string v], .bool long] w (PutPost (recR k v) w) := by
  have s1 : (⟨#[32]⟩ : ByteArray).size = 1 := rfl
  have s2 : (⟨#[61]⟩ : ByteArray).size = 1 := rfl
  have s3 : (⟨#[10]⟩ : ByteArray).size = 1 := rfl
  have g1 : 1 + k.size ≤ 9223372036854775807 := by omega
  have g2 : 1 + k.size + 1 ≤ 9223372036854775807 := by omega
  have g3 : 1 + k.size + 1 + v.size ≤ 9223372036854775807 := by omega
  have g4 : 1 + k.size + 1 + v.size + 1 ≤ 9223372036854775807 := by omega
  obtain ⟨R, hR⟩ : ∃ R, R = recR k v := ⟨_, rfl⟩
  have hRs : R.size = k.size + v.size + 3 := by rw [hR, recR_size]
  have HR : Hid ((⟨#[32]⟩ : ByteArray) ++ k ++ ⟨#[61]⟩ ++ v ++ ⟨#[10]⟩ = R) := Lib.hid (by rw [hR]; rfl)
  rw [← hR]
  have hRm : R.size ≤ 4294967300 := by omega
  have hR1 : 1 ≤ R.size := by omega
  clear hR hRs
  go_enter Tryd.func17, Tryd.ntmps17
  go_wp2
  rw [HR.out]
  have HB0 : Hid (Below w.heap.size w (w.alloc (.cells #[.string k, .string v] 23))) := Lib.hid ((Below.refl _ w).alloc (Nat.le_refl _) _)
  clear s1 s2 s3 g1 g2 g3 g4 hk hv HR
  go_loopw [6, 7] (fun o i wr => ∃ (out : ByteArray) (j : Nat), o = .string out ∧ i = .int .i64 j ∧ 1 ≤ j ∧ j ≤ 19 ∧ Hid (OutOk R out j) ∧ Hid (Below w.heap.size w wr)) (fun _ i _ => 19 - (intOf i).toNat)
  case atStart => exact ⟨⟨#[]⟩, 1, rfl, rfl, by omega, by omega, Lib.hid (.inl ⟨rfl, fun j a b => by omega⟩), HB0⟩
  case round =>
    obtain ⟨out, j, rfl, rfl, hj1, hj2, hO, hB⟩ := hrel
    by_cases hlt : j ≤ 18
    · have u1 : IntKind.i64.wrap ((R.size : Int) + (j : Int)) = ((R.size + j : Nat) : Int) := by rw [IntWalk.i64_in _ (by omega)]; omega
      have hnm : R.size + j ≤ 9223372036854775807 := by omega
      obtain ⟨N, hN⟩ : ∃ N, numB (R.size + j) = N := ⟨_, rfl⟩
      have hsz : N.size = (numL (R.size + j)).length := by rw [← hN, numB_size]
      have h19 : N.size ≤ 19 := by rw [hsz]; exact numL_le19 hnm
      have hcat : N.size + R.size ≤ 9223372036854775807 := by omega
      have HN := Lib.hid hN
      have HS := Lib.hid hsz
      clear hN hsz
      by_cases heq : N.size = j
      · have e1 : ((N.size : Int) == (j : Int)) = true := by rw [beq_iff_eq]; omega
        have HE := Lib.hid heq
        clear heq
        by_cases h0 : out.size = 0
        · obtain ⟨e2, e3⟩ := empty_yes' h0
          clear h0
          go_wp2_with (go_at_call 40; refine (number_nat _ _ hnm).mono ?_; rw [HN.out]; rintro e w1 ⟨rfl, hb1⟩; have HB1 : Hid (Below w.heap.size w w1) := Lib.hid (hB.out.trans (hb1.mono hB.out.size)); clear hb1)
          go_roundw
          case rel => exact ⟨N ++ R, j + 1, rfl, by go_num, by omega, by omega, Lib.hid (by rw [← HN.out]; exact outOk_yes hj1 (by have := HS.out; have := HE.out; omega)), HB1⟩
          case measure => simp [intOf]; omega
        · obtain ⟨e2, e3⟩ := empty_no' h0
          have H0 := Lib.hid h0
          clear h0
          by_cases hlong : long = true
          · subst hlong
            go_wp2_with (go_at_call 40; refine (number_nat _ _ hnm).mono ?_; rw [HN.out]; rintro e w1 ⟨rfl, hb1⟩; have HB1 : Hid (Below w.heap.size w w1) := Lib.hid (hB.out.trans (hb1.mono hB.out.size)); clear hb1)
            go_roundw
            case rel => exact ⟨N ++ R, j + 1, rfl, by go_num, by omega, by omega, Lib.hid (by rw [← HN.out]; exact outOk_yes hj1 (by have := HS.out; have := HE.out; omega)), HB1⟩
            case measure => simp [intOf]; omega
          · obtain rfl : long = false := by simpa using hlong
            go_wp2_with (go_at_call 40; refine (number_nat _ _ hnm).mono ?_; rw [HN.out]; rintro e w1 ⟨rfl, hb1⟩; have HB1 : Hid (Below w.heap.size w w1) := Lib.hid (hB.out.trans (hb1.mono hB.out.size)); clear hb1)
            go_roundw
            case rel => exact ⟨out, j + 1, rfl, by go_num, by omega, by omega, Lib.hid (outOk_keep hO.out H0.out), HB1⟩
            case measure => simp [intOf]; omega
      · have e1 : ((N.size : Int) == (j : Int)) = false := by rw [beq_eq_false_iff_ne]; omega
        have HE := Lib.hid heq
        clear heq
        go_wp2_with (go_at_call 40; refine (number_nat _ _ hnm).mono ?_; rw [HN.out]; rintro e w1 ⟨rfl, hb1⟩; have HB1 : Hid (Below w.heap.size w w1) := Lib.hid (hB.out.trans (hb1.mono hB.out.size)); clear hb1)
        go_roundw
        case rel => exact ⟨out, j + 1, rfl, by go_num, by omega, by omega, Lib.hid (outOk_no hO.out (by have := HS.out; have := HE.out; omega)), HB1⟩
        case measure => simp [intOf]; omega
    · obtain rfl : j = 19 := by omega
      go_wp2
      go_ret
      obtain ⟨j, a, b, c, rfl⟩ := outOk_end hO.out hR1 (by omega)
      exact ⟨⟨j, a, b, c, rfl⟩, hB.out⟩
end Go.Proofs.YtlchagphjmfooaaDoor
