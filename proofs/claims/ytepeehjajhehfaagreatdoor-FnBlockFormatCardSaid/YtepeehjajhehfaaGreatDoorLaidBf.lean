/- What the tied condition of FnBlockFormat gives; and the start that meets it. -/
import Derived.Test.YtepeehjajhehfaaGreatDoorBf
import Derived.Test.YtepeehjajhehfaaGreatDoorMB
import Derived.Stop.LaidErr
import Derived.LaidSub
import Derived.Lay
namespace Go.Proofs.YtepeehjajhehfaaGreatDoor.fnBlockFormatLaid
open Go.ChangeShapes Go.WideShapes Go.RowKit

theorem gErrs : ∀ n ∈ ["strconv.ErrRange", "strconv.ErrSyntax", "tapearchives/pub/gotar.ErrHeader"], ∃ g, Tryz.prog.globalNamed n = some g ∧ (Tryz.prog.globals[g]?).map (·.type) = some 101 := by
  intro n hn
  simp only [List.mem_cons, List.not_mem_nil, or_false] at hn
  rcases hn with rfl | rfl | rfl
  · exact ⟨5, by kernel_rfl, by kernel_rfl⟩
  · exact ⟨4, by kernel_rfl, by kernel_rfl⟩
  · exact ⟨1, by kernel_rfl, by kernel_rfl⟩

set_option maxRecDepth 100000 in
theorem form : ∃ l : List (String × List UInt8), Rows.fnBlockFormatRow.laid.filter (fun x => match x.2 with | .iface _ _ => true | _ => false) = sentL l ∧ l.map (·.1) = ["strconv.ErrRange", "strconv.ErrSyntax", "tapearchives/pub/gotar.ErrHeader"] :=
  ⟨[("strconv.ErrRange", _), ("strconv.ErrSyntax", _), ("tapearchives/pub/gotar.ErrHeader", _)], rfl, rfl⟩

theorem held_named {w : World} : ∀ {l : List (String × List UInt8)} {al : List Addr}, Held w l al → ∀ (i : Nat) (n : String), (l.map (·.1))[i]? = some n → ∃ g a, al[i]? = some a ∧ Tryz.prog.globalNamed n = some g ∧ Err w.heap.size w g a
  | _, _, .nil, i, n, h => by simp at h
  | _, _, .cons (g := g) (a := a) hg he hr, 0, n, h => by
    simp at h
    subst h
    exact ⟨g, a, rfl, hg, he⟩
  | _, _, .cons hg he hr, i + 1, n, h => by
    have h' := held_named hr i n (by simpa using h)
    simpa using h'

set_option maxRecDepth 100000 in
theorem of_laid {W : World} (h0 : laidMetH Tryz.prog Rows.fnBlockFormatRow.laid W) :
    ∃ a1 a2 a3 : Addr, Err W.heap.size W 1 a1 ∧ Err W.heap.size W 4 a2 ∧ Err W.heap.size W 5 a3 ∧ a2 ≠ a1 ∧ a3 ≠ a1 ∧ a3 ≠ a2 := by
  have h : laidMet Tryz.prog Rows.fnBlockFormatRow.laid W := by rw [MakeChecks.laidMetH_plain _ _ _ (by kernel_rfl)] at h0; exact h0
  obtain ⟨l, hl, hnames⟩ := form
  replace h := laidMet.filter (fun x => match x.2 with | .iface _ _ => true | _ => false) h
  rw [hl] at h
  obtain ⟨al, hh, hnd⟩ := held_of_laid l (fun x hx => gErrs x.1 (by rw [← hnames]; exact List.mem_map_of_mem hx)) h
  obtain ⟨g1, a1, e1, n1, r1⟩ := held_named hh 2 "tapearchives/pub/gotar.ErrHeader" (by rw [hnames]; rfl)
  obtain ⟨g2, a2, e2, n2, r2⟩ := held_named hh 1 "strconv.ErrSyntax" (by rw [hnames]; rfl)
  obtain ⟨g3, a3, e3, n3, r3⟩ := held_named hh 0 "strconv.ErrRange" (by rw [hnames]; rfl)
  obtain rfl : g1 = 1 := Option.some.inj (n1.symm.trans (by kernel_rfl))
  obtain rfl : g2 = 4 := Option.some.inj (n2.symm.trans (by kernel_rfl))
  obtain rfl : g3 = 5 := Option.some.inj (n3.symm.trans (by kernel_rfl))
  have hne : ∀ {i j : Nat} {a b : Addr}, al[i]? = some a → al[j]? = some b → i ≠ j → a ≠ b := by
    intro i j a b hi hj hij hab
    subst hab
    obtain ⟨hi1, hi2⟩ := List.getElem?_eq_some_iff.1 hi
    obtain ⟨hj1, hj2⟩ := List.getElem?_eq_some_iff.1 hj
    have hp := List.pairwise_iff_getElem.1 hnd
    rcases Nat.lt_or_gt_of_ne hij with hlt | hlt
    · exact hp i j hi1 hj1 hlt (hi2.trans hj2.symm)
    · exact hp j i hj1 hi1 hlt (hj2.trans hi2.symm)
  exact ⟨a1, a2, a3, r1, r2, r3, hne e2 e1 (by omega), hne e3 e1 (by omega), hne e3 e2 (by omega)⟩

set_option maxRecDepth 100000 in
theorem door_met (os : Os) (args : Array Value) : laidMetH Tryz.prog Rows.fnBlockFormatRow.laid ((World.laidAll Tryz.prog os Rows.fnBlockFormatRow.laid).forCall (fun _ _ => 0) ⟨#[], args, []⟩).memory := by
  rw [MakeChecks.laidMetH_plain _ _ _ (by kernel_rfl)]
  exact laidMet_laidAll _ (by kernel_rfl) (by kernel_rfl)
end Go.Proofs.YtepeehjajhehfaaGreatDoor.fnBlockFormatLaid
