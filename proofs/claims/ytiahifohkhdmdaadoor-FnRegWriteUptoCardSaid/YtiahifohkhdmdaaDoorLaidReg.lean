/- What the tied condition of FnRegWrite gives; and the start that meets it. -/
import Derived.Test.YtiahifohkhdmdaaDoorRegLaw
namespace Go.Proofs.YtiahifohkhdmdaaDoor
open Go.ChangeShapes Go.WideShapes Go.RowKit

theorem gErrs : ∀ n ∈ ["io.EOF", "io.ErrUnexpectedEOF", "tapearchives/pub/gotar.ErrHeader", "tapearchives/pub/gotar.ErrWriteTooLong", "tapearchives/pub/gotar.ErrFieldTooLong", "tapearchives/pub/gotar.ErrWriteAfterClose", "tapearchives/pub/gotar.ErrInsecurePath"],
    ∃ g, Tryd.prog.globalNamed n = some g ∧ (Tryd.prog.globals[g]?).map (·.type) = some 53 := by
  intro n hn
  simp only [List.mem_cons, List.not_mem_nil, or_false] at hn
  rcases hn with rfl | rfl | rfl | rfl | rfl | rfl | rfl
  · exact ⟨2, by kernel_rfl, by kernel_rfl⟩
  · exact ⟨5, by kernel_rfl, by kernel_rfl⟩
  · exact ⟨3, by kernel_rfl, by kernel_rfl⟩
  · exact ⟨1, by kernel_rfl, by kernel_rfl⟩
  · exact ⟨0, by kernel_rfl, by kernel_rfl⟩
  · exact ⟨4, by kernel_rfl, by kernel_rfl⟩
  · exact ⟨6, by kernel_rfl, by kernel_rfl⟩

set_option maxRecDepth 100000 in
theorem regLaid_form : ∃ l : List (String × List UInt8), Rows.fnRegWriteUptoRow.laid = sentL l ∧ l.map (·.1) = ["io.EOF", "io.ErrUnexpectedEOF", "tapearchives/pub/gotar.ErrHeader", "tapearchives/pub/gotar.ErrWriteTooLong", "tapearchives/pub/gotar.ErrFieldTooLong", "tapearchives/pub/gotar.ErrWriteAfterClose", "tapearchives/pub/gotar.ErrInsecurePath"] :=
  ⟨[("io.EOF", _), ("io.ErrUnexpectedEOF", _), ("tapearchives/pub/gotar.ErrHeader", _), ("tapearchives/pub/gotar.ErrWriteTooLong", _), ("tapearchives/pub/gotar.ErrFieldTooLong", _), ("tapearchives/pub/gotar.ErrWriteAfterClose", _), ("tapearchives/pub/gotar.ErrInsecurePath", _)], rfl, rfl⟩

theorem held_named {w : World} : ∀ {l : List (String × List UInt8)} {al : List Addr}, Held w l al → ∀ (i : Nat) (n : String), (l.map (·.1))[i]? = some n → ∃ g a, al[i]? = some a ∧ Tryd.prog.globalNamed n = some g ∧ Err w.heap.size w g a
  | _, _, .nil, i, n, h => by simp at h
  | _, _, .cons (g := g) (a := a) hg he hr, 0, n, h => by
    simp at h
    subst h
    exact ⟨g, a, rfl, hg, he⟩
  | _, _, .cons hg he hr, i + 1, n, h => by
    have h' := held_named hr i n (by simpa using h)
    simpa using h'

set_option maxRecDepth 100000 in
theorem reg_of_laid {W : World} (h0 : laidMetH Tryd.prog Rows.fnRegWriteUptoRow.laid W) :
    ∃ a1 a2 a3 : Addr, Err W.heap.size W 2 a1 ∧ Err W.heap.size W 3 a2 ∧ Err W.heap.size W 1 a3 ∧ a3 ≠ a1 ∧ a3 ≠ a2 := by
  have h : laidMet Tryd.prog Rows.fnRegWriteUptoRow.laid W := by rw [MakeChecks.laidMetH_plain _ _ _ (by kernel_rfl)] at h0; exact h0
  obtain ⟨l, hl, hnames⟩ := regLaid_form
  rw [hl] at h
  obtain ⟨al, hh, hnd⟩ := held_of_laid l (fun x hx => gErrs x.1 (by rw [← hnames]; exact List.mem_map_of_mem hx)) h
  obtain ⟨g1, a1, e1, n1, r1⟩ := held_named hh 0 "io.EOF" (by rw [hnames]; rfl)
  obtain ⟨g2, a2, e2, n2, r2⟩ := held_named hh 2 "tapearchives/pub/gotar.ErrHeader" (by rw [hnames]; rfl)
  obtain ⟨g3, a3, e3, n3, r3⟩ := held_named hh 3 "tapearchives/pub/gotar.ErrWriteTooLong" (by rw [hnames]; rfl)
  obtain rfl : g1 = 2 := Option.some.inj (n1.symm.trans (by kernel_rfl))
  obtain rfl : g2 = 3 := Option.some.inj (n2.symm.trans (by kernel_rfl))
  obtain rfl : g3 = 1 := Option.some.inj (n3.symm.trans (by kernel_rfl))
  have hne : ∀ {i j : Nat} {a b : Addr}, al[i]? = some a → al[j]? = some b → i ≠ j → a ≠ b := by
    intro i j a b hi hj hij hab
    subst hab
    obtain ⟨hi1, hi2⟩ := List.getElem?_eq_some_iff.1 hi
    obtain ⟨hj1, hj2⟩ := List.getElem?_eq_some_iff.1 hj
    have hp := List.pairwise_iff_getElem.1 hnd
    rcases Nat.lt_or_gt_of_ne hij with hlt | hlt
    · exact hp i j hi1 hj1 hlt (hi2.trans hj2.symm)
    · exact hp j i hj1 hi1 hlt (hj2.trans hi2.symm)
  exact ⟨a1, a2, a3, r1, r2, r3, hne e3 e1 (by omega), hne e3 e2 (by omega)⟩

set_option maxRecDepth 100000 in
theorem door_metReg (os : Os) (args : Array Value) : laidMetH Tryd.prog Rows.fnRegWriteUptoRow.laid ((World.doorLaid Tryd.prog 400 os).forCall (fun _ _ => 0) ⟨#[], args, []⟩).memory :=
  laidMetH_of_parts3 (fuel := 8) (laidMet_of_run' 8 (by kernel_rfl) (by kernel_rfl)) (by kernel_rfl) (by kernel_rfl)

theorem le_sum_mem {x : Nat} : ∀ {l : List Nat}, x ∈ l → x ≤ l.sum
  | [], h => by simp at h
  | y :: r, h => by
    rw [List.sum_cons]
    rcases List.mem_cons.1 h with rfl | h
    · omega
    · have := le_sum_mem h; omega
theorem sum_take_le (l : List Nat) (k : Nat) : (l.take k).sum ≤ l.sum := by
  have h := List.take_append_drop k l
  have : l.sum = (l.take k).sum + (l.drop k).sum := by rw [← List.sum_append, h]
  omega
theorem outB_le (S : Nat) (pl : List Part) : ∀ k, k ≤ pl.length → (outB S pl k).length ≤ ((pl.map (·.n)).take k).sum
  | 0, _ => by simp [outB]
  | k + 1, hk => by
    have ih := outB_le S pl k (by omega)
    have hg := got_le S pl k
    have e : (pl.map (·.n)).take (k + 1) = (pl.map (·.n)).take k ++ [(pat pl k).n] := by
      rw [List.take_succ_eq_append_getElem (by rw [List.length_map]; omega)]
      congr 2
      simp [pat, List.getD, show k < pl.length by omega]
    rw [e, List.sum_append]
    simp only [outB, List.length_append, List.length_take, List.sum_cons, List.sum_nil]
    omega

set_option maxRecDepth 20000 in
set_option maxHeartbeats 400000 in
theorem fnRegWrite_neg (S : Int) (A : Option Addr) (n c : Nat) (pl : List Part) (w : World) (hS : S < 0) (hn : pl.length = n) (hr : RC w w.heap.size A (psl pl)) (hbig : n ≤ 1048576) (hs : ∀ p ∈ pl, p.n ≤ 1048576) :
    Calls Tryd.prog 4 #[.int .i64 S, .slice A n c] w fun e w' => e = .returned (.bool true) ∧ Below w.heap.size w w' := by
  have HF := Lib.hid (fits9 A n c w.heap.size pl w hn hr hbig hs)
  clear hn hr hs
  go_enter Tryd.func4, Tryd.ntmps4
  go_wp2_with fail
  refine HF.out.mono ?_
  rintro e w' ⟨rfl, rfl⟩
  go_wp2_with fail
  go_ret
  exact ⟨rfl, Below.refl _ _⟩

theorem fnRegWrite_walk (S : Int) (A : Option Addr) (n c : Nat) (pl : List Part) (w : World) (hS : S ≤ 9223372036854775807) (hn : pl.length = n) (hr : RC w w.heap.size A (psl pl)) (hok : ∀ p ∈ pl, PartOk w w.heap.size p)
    (hB : (pl.map (·.n)).sum + pl.length ≤ 1048576) (hL : laidMetH Tryd.prog Rows.fnRegWriteUptoRow.laid w) :
    Calls Tryd.prog 4 #[.int .i64 S, .slice A n c] w fun e w' => e = .returned (.bool true) ∧ Below w.heap.size w w' := by
  have hs : ∀ p ∈ pl, p.n ≤ 1048576 := by
    intro p hp
    have := le_sum_mem (List.mem_map_of_mem (f := (·.n)) hp)
    omega
  by_cases hneg : S < 0
  · exact fnRegWrite_neg S A n c pl w hneg hn hr (by omega) hs
  · obtain ⟨m, rfl⟩ : ∃ m : Nat, S = m := ⟨S.toNat, by omega⟩
    obtain ⟨a1, a2, a3, h1, h2, h3, n1, n2⟩ := reg_of_laid hL
    exact fnRegWrite_pos m A n c pl a1 a2 a3 w (by omega) hn hr hok (by omega) hs (fun k hk => by
      have h4 := outB_le m pl k (by omega)
      have h5 := sum_take_le (pl.map (·.n)) k
      omega) h1 h2 h3 n1 n2
end Go.Proofs.YtiahifohkhdmdaaDoor
