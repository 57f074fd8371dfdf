/- What the tied condition of FnMap01 gives; and the start that meets it. -/
import Derived.Test.YtlchagphjmfooaaDoorMap4
import Derived.Test.YtlchagphjmfooaaDoorErr
import Derived.Stop.LaidErr
namespace Go.Proofs.YtlchagphjmfooaaDoor.fnMap01Laid
open Go.ChangeShapes Go.WideShapes Go.RowKit

theorem gErrs : ∀ n ∈ ["strconv.ErrRange", "strconv.ErrSyntax", "tapearchives/pub/gotar.ErrHeader", "tapearchives/pub/gotar.errSparseTooLong"], ∃ g, Tryd.prog.globalNamed n = some g ∧ (Tryd.prog.globals[g]?).map (·.type) = some 105 := by
  intro n hn
  simp only [List.mem_cons, List.not_mem_nil, or_false] at hn
  rcases hn with rfl | rfl | rfl | rfl
  · exact ⟨7, by kernel_rfl, by kernel_rfl⟩
  · exact ⟨6, by kernel_rfl, by kernel_rfl⟩
  · exact ⟨0, by kernel_rfl, by kernel_rfl⟩
  · exact ⟨1, by kernel_rfl, by kernel_rfl⟩

set_option maxRecDepth 100000 in
theorem form : ∃ (t0 : String × DataW Unit) (t1 : String × DataW Unit) (t2 : String × DataW Unit) (l : List (String × List UInt8)), Rows.fnMap01Row.laid = t0 :: t1 :: t2 :: sentL l ∧ l.map (·.1) = ["strconv.ErrRange", "strconv.ErrSyntax", "tapearchives/pub/gotar.ErrHeader", "tapearchives/pub/gotar.errSparseTooLong"] :=
  ⟨_, _, _, [("strconv.ErrRange", _), ("strconv.ErrSyntax", _), ("tapearchives/pub/gotar.ErrHeader", _), ("tapearchives/pub/gotar.errSparseTooLong", _)], rfl, rfl⟩

theorem held_named {w : World} : ∀ {l : List (String × List UInt8)} {al : List Addr}, Held w l al → ∀ (i : Nat) (n : String), (l.map (·.1))[i]? = some n → ∃ g a, al[i]? = some a ∧ Tryd.prog.globalNamed n = some g ∧ Err w.heap.size w g a
  | _, _, .nil, i, n, h => by simp at h
  | _, _, .cons (g := g) (a := a) hg he hr, 0, n, h => by
    simp at h
    subst h
    exact ⟨g, a, rfl, hg, he⟩
  | _, _, .cons hg he hr, i + 1, n, h => by
    have h' := held_named hr i n (by simpa using h)
    simpa using h'

set_option maxRecDepth 100000 in
theorem of_laid {W : World} (h0 : laidMetH Tryd.prog Rows.fnMap01Row.laid W) :
    ∃ a1 : Addr, Err W.heap.size W 0 a1 := by
  have h : laidMet Tryd.prog Rows.fnMap01Row.laid W := by rw [MakeChecks.laidMetH_plain _ _ _ (by kernel_rfl)] at h0; exact h0
  obtain ⟨t0, t1, t2, l, hl, hnames⟩ := form
  rw [hl] at h
  replace h := laidMet.tail h
  replace h := laidMet.tail h
  replace h := laidMet.tail h
  obtain ⟨al, hh, hnd⟩ := held_of_laid l (fun x hx => gErrs x.1 (by rw [← hnames]; exact List.mem_map_of_mem hx)) h
  obtain ⟨g1, a1, e1, n1, r1⟩ := held_named hh 2 "tapearchives/pub/gotar.ErrHeader" (by rw [hnames]; rfl)
  obtain rfl : g1 = 0 := Option.some.inj (n1.symm.trans (by kernel_rfl))
  exact ⟨a1, r1⟩

set_option maxRecDepth 100000 in
theorem door_met (os : Os) (args : Array Value) : laidMetH Tryd.prog Rows.fnMap01Row.laid ((World.doorLaid Tryd.prog 400 os).forCall (fun _ _ => 0) ⟨#[], args, []⟩).memory :=
  laidMetH_of_parts3 (fuel := 8) (laidMet_of_run' 8 (by kernel_rfl) (by kernel_rfl)) (by kernel_rfl) (by kernel_rfl)
end Go.Proofs.YtlchagphjmfooaaDoor.fnMap01Laid
