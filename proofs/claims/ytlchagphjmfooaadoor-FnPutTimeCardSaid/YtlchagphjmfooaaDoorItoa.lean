/- strconv.Itoa in this text's words; the table it reads; two widths. -/
import Derived.Test.YtlchagphjmfooaaDoorPutRec
import Derived.Test.YtlchagphjmfooaaDoorShelf
import Derived.Lib.ItoaNum
import Derived.Lib.LaidTab
import Derived.Lib.AppendIntMem
namespace Go.Proofs.YtlchagphjmfooaaDoor
open Go.RowKit Go.PlainAid
set_option linter.unusedVariables false

def Tab (w : World) : Prop := Lib.TabIs Tryd.prog w "internal/strconv.uint64pow10" .u64 Lib.pow10Tab
theorem tab_below {w w' : World} (h : Tab w) (hb : Below w.heap.size w w') : Tab w' := by
  unfold Tab Lib.TabIs World.var? at h ⊢
  have hg : Tryd.prog.globalNamed "internal/strconv.uint64pow10" = some 8 := by kernel_rfl
  rw [hg] at h ⊢
  simp only [Option.bind_some] at h ⊢
  have hlt : 8 < w.heap.size := by
    rcases Nat.lt_or_ge 8 w.heap.size with h1 | h1
    · exact h1
    · rw [Array.getElem?_eq_none h1] at h; cases h
  rw [hb.block _ hlt]
  exact h
theorem decDigits_eq (n : Nat) : Lib.decDigits n = numL n := by
  induction n using Nat.strongRecOn with
  | _ n ih =>
    by_cases h : n < 10
    · rw [numL_small h, Lib.decDigits, dif_pos h]
    · rw [numL_big h, Lib.decDigits, dif_neg h, ih _ (by omega)]
theorem itoa_nat (n : Nat) (w : World) (hn : n ≤ 9223372036854775807) (ht : Tab w) :
    Calls Tryd.prog 78 #[.int .i64 n] w fun e w' => e = .returned (.string (numB n)) ∧ Below w.heap.size w w' := by
  refine (Tryd.strconv_Itoa (n : Int) (by omega) (by omega) w ht).mono ?_
  rintro e w' ⟨rfl, k, os, rfl⟩
  refine ⟨?_, Lib.below_grow _ _ (Nat.le_refl _) _ _⟩
  have : Lib.itoa (n : Int) = numL n := by
    unfold Lib.itoa
    rw [if_neg (by omega), Int.toNat_natCast, decDigits_eq]
  rw [this]
  rfl
theorem width_two (L : Nat) (h1 : 1 ≤ L) : (numL (L + (numL L).length)).length = (numL L).length ∨ ((numL (L + (numL L).length)).length = (numL L).length + 1 ∧ (numL (L + ((numL L).length + 1))).length = (numL L).length + 1) := by
  obtain ⟨a, ha⟩ : ∃ a, (numL L).length = a + 1 := ⟨(numL L).length - 1, by have := numL_pos L; omega⟩
  have lt := numL_lt L
  rw [ha] at lt ⊢
  have ge : 10 ^ a ≤ L := by
    by_cases h : 10 ≤ L
    · have := numL_ge L h; rwa [ha] at this
    · have e : (numL L).length = 1 := by rw [numL_small (by omega)]; rfl
      have : a = 0 := by omega
      subst this
      omega
  have big : 10 ^ (a + 1) + (a + 2) ≤ 10 ^ (a + 1 + 1) := by
    have e : (10 : Nat) ^ (a + 1 + 1) = 10 ^ (a + 1) * 10 := Nat.pow_succ ..
    have p : a + 1 < 10 ^ (a + 1) := Nat.lt_pow_self (by omega)
    omega
  by_cases c : L + (a + 1) < 10 ^ (a + 1)
  · exact .inl (numL_len (by omega) c)
  · exact .inr ⟨numL_len (k := a + 1) (by omega) (by omega), numL_len (k := a + 1) (by omega) (by omega)⟩
end Go.Proofs.YtlchagphjmfooaaDoor
