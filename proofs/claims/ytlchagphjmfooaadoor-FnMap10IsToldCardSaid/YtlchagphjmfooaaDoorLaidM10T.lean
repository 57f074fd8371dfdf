/- What the tied condition of FnMap10IsTold gives; and the start that meets it. -/
import Derived.Test.YtlchagphjmfooaaDoorM10T
import Derived.Test.YtlchagphjmfooaaDoorErr
import Derived.Stop.LaidErr
namespace Go.Proofs.YtlchagphjmfooaaDoor.fnMap10IsToldLaid
open Go.ChangeShapes Go.WideShapes Go.RowKit

theorem gErrs : ∀ n ∈ ["strconv.ErrRange", "strconv.ErrSyntax", "io.EOF", "io.ErrUnexpectedEOF", "bytes.ErrTooLarge", "tapearchives/pub/gotar.ErrHeader", "tapearchives/pub/gotar.errSparseTooLong"], ∃ g, Tryd.prog.globalNamed n = some g ∧ (Tryd.prog.globals[g]?).map (·.type) = some 105 := by
  intro n hn
  simp only [List.mem_cons, List.not_mem_nil, or_false] at hn
  rcases hn with rfl | rfl | rfl | rfl | rfl | rfl | rfl
  · exact ⟨7, by kernel_rfl, by kernel_rfl⟩
  · exact ⟨6, by kernel_rfl, by kernel_rfl⟩
  · exact ⟨2, by kernel_rfl, by kernel_rfl⟩
  · exact ⟨3, by kernel_rfl, by kernel_rfl⟩
  · exact ⟨5, by kernel_rfl, by kernel_rfl⟩
  · exact ⟨0, by kernel_rfl, by kernel_rfl⟩
  · exact ⟨1, by kernel_rfl, by kernel_rfl⟩

set_option maxRecDepth 100000 in
theorem form : ∃ (t0 : String × DataW Unit) (t1 : String × DataW Unit) (t2 : String × DataW Unit) (l : List (String × List UInt8)), Rows.fnMap10IsToldRow.laid = t0 :: t1 :: t2 :: sentL l ∧ l.map (·.1) = ["strconv.ErrRange", "strconv.ErrSyntax", "io.EOF", "io.ErrUnexpectedEOF", "bytes.ErrTooLarge", "tapearchives/pub/gotar.ErrHeader", "tapearchives/pub/gotar.errSparseTooLong"] :=
  ⟨_, _, _, [("strconv.ErrRange", _), ("strconv.ErrSyntax", _), ("io.EOF", _), ("io.ErrUnexpectedEOF", _), ("bytes.ErrTooLarge", _), ("tapearchives/pub/gotar.ErrHeader", _), ("tapearchives/pub/gotar.errSparseTooLong", _)], rfl, rfl⟩

theorem held_named {w : World} : ∀ {l : List (String × List UInt8)} {al : List Addr}, Held w l al → ∀ (i : Nat) (n : String), (l.map (·.1))[i]? = some n → ∃ g a, al[i]? = some a ∧ Tryd.prog.globalNamed n = some g ∧ Err w.heap.size w g a
  | _, _, .nil, i, n, h => by simp at h
  | _, _, .cons (g := g) (a := a) hg he hr, 0, n, h => by
    simp at h
    subst h
    exact ⟨g, a, rfl, hg, he⟩
  | _, _, .cons hg he hr, i + 1, n, h => by
    have h' := held_named hr i n (by simpa using h)
    simpa using h'

set_option maxRecDepth 100000 in
theorem of_laid {W : World} (h0 : laidMetH Tryd.prog Rows.fnMap10IsToldRow.laid W) :
    ∃ a1 a2 a3 a4 a5 : Addr, Err W.heap.size W 2 a1 ∧ Err W.heap.size W 3 a2 ∧ Err W.heap.size W 0 a3 ∧ Err W.heap.size W 6 a4 ∧ Err W.heap.size W 7 a5 ∧ a2 ≠ a1 ∧ a3 ≠ a1 ∧ a3 ≠ a2 ∧ a4 ≠ a1 ∧ a4 ≠ a2 ∧ a4 ≠ a3 ∧ a5 ≠ a1 ∧ a5 ≠ a2 ∧ a5 ≠ a3 ∧ a5 ≠ a4 := by
  have h : laidMet Tryd.prog Rows.fnMap10IsToldRow.laid W := by rw [MakeChecks.laidMetH_plain _ _ _ (by kernel_rfl)] at h0; exact h0
  obtain ⟨t0, t1, t2, l, hl, hnames⟩ := form
  rw [hl] at h
  replace h := laidMet.tail h
  replace h := laidMet.tail h
  replace h := laidMet.tail h
  obtain ⟨al, hh, hnd⟩ := held_of_laid l (fun x hx => gErrs x.1 (by rw [← hnames]; exact List.mem_map_of_mem hx)) h
  obtain ⟨g1, a1, e1, n1, r1⟩ := held_named hh 2 "io.EOF" (by rw [hnames]; rfl)
  obtain ⟨g2, a2, e2, n2, r2⟩ := held_named hh 3 "io.ErrUnexpectedEOF" (by rw [hnames]; rfl)
  obtain ⟨g3, a3, e3, n3, r3⟩ := held_named hh 5 "tapearchives/pub/gotar.ErrHeader" (by rw [hnames]; rfl)
  obtain ⟨g4, a4, e4, n4, r4⟩ := held_named hh 1 "strconv.ErrSyntax" (by rw [hnames]; rfl)
  obtain ⟨g5, a5, e5, n5, r5⟩ := held_named hh 0 "strconv.ErrRange" (by rw [hnames]; rfl)
  obtain rfl : g1 = 2 := Option.some.inj (n1.symm.trans (by kernel_rfl))
  obtain rfl : g2 = 3 := Option.some.inj (n2.symm.trans (by kernel_rfl))
  obtain rfl : g3 = 0 := Option.some.inj (n3.symm.trans (by kernel_rfl))
  obtain rfl : g4 = 6 := Option.some.inj (n4.symm.trans (by kernel_rfl))
  obtain rfl : g5 = 7 := Option.some.inj (n5.symm.trans (by kernel_rfl))
  have hne : ∀ {i j : Nat} {a b : Addr}, al[i]? = some a → al[j]? = some b → i ≠ j → a ≠ b := by
    intro i j a b hi hj hij hab
    subst hab
    obtain ⟨hi1, hi2⟩ := List.getElem?_eq_some_iff.1 hi
    obtain ⟨hj1, hj2⟩ := List.getElem?_eq_some_iff.1 hj
    have hp := List.pairwise_iff_getElem.1 hnd
    rcases Nat.lt_or_gt_of_ne hij with hlt | hlt
    · exact hp i j hi1 hj1 hlt (hi2.trans hj2.symm)
    · exact hp j i hj1 hi1 hlt (hj2.trans hi2.symm)
  exact ⟨a1, a2, a3, a4, a5, r1, r2, r3, r4, r5, hne e2 e1 (by omega), hne e3 e1 (by omega), hne e3 e2 (by omega), hne e4 e1 (by omega), hne e4 e2 (by omega), hne e4 e3 (by omega), hne e5 e1 (by omega), hne e5 e2 (by omega), hne e5 e3 (by omega), hne e5 e4 (by omega)⟩

set_option maxRecDepth 100000 in
theorem door_met (os : Os) (args : Array Value) : laidMetH Tryd.prog Rows.fnMap10IsToldRow.laid ((World.doorLaid Tryd.prog 400 os).forCall (fun _ _ => 0) ⟨#[], args, []⟩).memory :=
  laidMetH_of_parts3 (fuel := 8) (laidMet_of_run' 8 (by kernel_rfl) (by kernel_rfl)) (by kernel_rfl) (by kernel_rfl)
end Go.Proofs.YtlchagphjmfooaaDoor.fnMap10IsToldLaid
