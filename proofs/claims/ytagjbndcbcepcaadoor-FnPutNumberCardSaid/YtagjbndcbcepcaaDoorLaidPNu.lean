/- What the tied condition of FnPutNumber gives; and the start that meets it. -/
import Derived.Test.YtagjbndcbcepcaaDoorPNuW
import Derived.Test.YtagjbndcbcepcaaDoorErr
import Derived.Stop.LaidErr
import Derived.LaidSub
import Derived.Lay
import Derived.Lib.LaidTab
namespace Go.Proofs.YtagjbndcbcepcaaDoor.fnPutNumberLaid
open Go.ChangeShapes Go.WideShapes Go.RowKit

theorem gErrs : ∀ n ∈ ["strconv.ErrRange", "strconv.ErrSyntax", "tapearchives/pub/gotar.ErrHeader", "tapearchives/pub/gotar.ErrFieldTooLong"], ∃ g, Tryd.prog.globalNamed n = some g ∧ (Tryd.prog.globals[g]?).map (·.type) = some 39 := by
  intro n hn
  simp only [List.mem_cons, List.not_mem_nil, or_false] at hn
  rcases hn with rfl | rfl | rfl | rfl
  · exact ⟨3, by kernel_rfl, by kernel_rfl⟩
  · exact ⟨2, by kernel_rfl, by kernel_rfl⟩
  · exact ⟨0, by kernel_rfl, by kernel_rfl⟩
  · exact ⟨1, by kernel_rfl, by kernel_rfl⟩

set_option maxRecDepth 100000 in
theorem form : ∃ l : List (String × List UInt8), Rows.fnPutNumberRow.laid.filter (fun x => match x.2 with | .iface _ _ => true | _ => false) = sentL l ∧ l.map (·.1) = ["strconv.ErrRange", "strconv.ErrSyntax", "tapearchives/pub/gotar.ErrHeader", "tapearchives/pub/gotar.ErrFieldTooLong"] :=
  ⟨[("strconv.ErrRange", _), ("strconv.ErrSyntax", _), ("tapearchives/pub/gotar.ErrHeader", _), ("tapearchives/pub/gotar.ErrFieldTooLong", _)], rfl, rfl⟩

theorem held_named {w : World} : ∀ {l : List (String × List UInt8)} {al : List Addr}, Held w l al → ∀ (i : Nat) (n : String), (l.map (·.1))[i]? = some n → ∃ g a, al[i]? = some a ∧ Tryd.prog.globalNamed n = some g ∧ Err w.heap.size w g a
  | _, _, .nil, i, n, h => by simp at h
  | _, _, .cons (g := g) (a := a) hg he hr, 0, n, h => by
    simp at h
    subst h
    exact ⟨g, a, rfl, hg, he⟩
  | _, _, .cons hg he hr, i + 1, n, h => by
    have h' := held_named hr i n (by simpa using h)
    simpa using h'

set_option maxRecDepth 100000 in
theorem of_laid {W : World} (h0 : laidMetH Tryd.prog Rows.fnPutNumberRow.laid W) :
    ∃ a1 a2 a3 a4 : Addr, Err W.heap.size W 0 a1 ∧ Err W.heap.size W 2 a2 ∧ Err W.heap.size W 3 a3 ∧ Err W.heap.size W 1 a4 ∧ a2 ≠ a1 ∧ a3 ≠ a1 ∧ a3 ≠ a2 ∧ a4 ≠ a1 ∧ a4 ≠ a2 ∧ a4 ≠ a3 := by
  have h : laidMet Tryd.prog Rows.fnPutNumberRow.laid W := by rw [MakeChecks.laidMetH_plain _ _ _ (by kernel_rfl)] at h0; exact h0
  obtain ⟨l, hl, hnames⟩ := form
  replace h := laidMet.filter (fun x => match x.2 with | .iface _ _ => true | _ => false) h
  rw [hl] at h
  obtain ⟨al, hh, hnd⟩ := held_of_laid l (fun x hx => gErrs x.1 (by rw [← hnames]; exact List.mem_map_of_mem hx)) h
  obtain ⟨g1, a1, e1, n1, r1⟩ := held_named hh 2 "tapearchives/pub/gotar.ErrHeader" (by rw [hnames]; rfl)
  obtain ⟨g2, a2, e2, n2, r2⟩ := held_named hh 1 "strconv.ErrSyntax" (by rw [hnames]; rfl)
  obtain ⟨g3, a3, e3, n3, r3⟩ := held_named hh 0 "strconv.ErrRange" (by rw [hnames]; rfl)
  obtain ⟨g4, a4, e4, n4, r4⟩ := held_named hh 3 "tapearchives/pub/gotar.ErrFieldTooLong" (by rw [hnames]; rfl)
  obtain rfl : g1 = 0 := Option.some.inj (n1.symm.trans (by kernel_rfl))
  obtain rfl : g2 = 2 := Option.some.inj (n2.symm.trans (by kernel_rfl))
  obtain rfl : g3 = 3 := Option.some.inj (n3.symm.trans (by kernel_rfl))
  obtain rfl : g4 = 1 := Option.some.inj (n4.symm.trans (by kernel_rfl))
  have hne : ∀ {i j : Nat} {a b : Addr}, al[i]? = some a → al[j]? = some b → i ≠ j → a ≠ b := by
    intro i j a b hi hj hij hab
    subst hab
    obtain ⟨hi1, hi2⟩ := List.getElem?_eq_some_iff.1 hi
    obtain ⟨hj1, hj2⟩ := List.getElem?_eq_some_iff.1 hj
    have hp := List.pairwise_iff_getElem.1 hnd
    rcases Nat.lt_or_gt_of_ne hij with hlt | hlt
    · exact hp i j hi1 hj1 hlt (hi2.trans hj2.symm)
    · exact hp j i hj1 hi1 hlt (hj2.trans hi2.symm)
  exact ⟨a1, a2, a3, a4, r1, r2, r3, r4, hne e2 e1 (by omega), hne e3 e1 (by omega), hne e3 e2 (by omega), hne e4 e1 (by omega), hne e4 e2 (by omega), hne e4 e3 (by omega)⟩

set_option maxRecDepth 100000 in
theorem door_met (os : Os) (args : Array Value) : laidMetH Tryd.prog Rows.fnPutNumberRow.laid ((World.laidAll Tryd.prog os Rows.fnPutNumberRow.laid).forCall (fun _ _ => 0) ⟨#[], args, []⟩).memory := by
  rw [MakeChecks.laidMetH_plain _ _ _ (by kernel_rfl)]
  exact laidMet_laidAll _ (by kernel_rfl) (by kernel_rfl)

def tz64 : List Int := [0, 1, 56, 2, 57, 49, 28, 3, 61, 58, 42, 50, 38, 29, 17, 4, 62, 47, 59, 36, 45, 43, 51, 22, 53, 39, 33, 30, 24, 18, 12, 5, 63, 55, 48, 27, 60, 41, 37, 16, 46, 35, 44, 21, 52, 32, 23, 11, 54, 26, 40, 15, 34, 20, 31, 10, 25, 14, 19, 9, 13, 8, 7, 6]
theorem formTz : ∃ (t0 : String × DataW Unit) (l : List (String × DataW Unit)), Rows.fnPutNumberRow.laid = t0 :: ("math/bits.deBruijn64tab", Lib.tabData .u8 tz64) :: l := ⟨_, _, rfl⟩
theorem tz_of_laid {W : World} (h0 : laidMetH Tryd.prog Rows.fnPutNumberRow.laid W) : Tz8 W := by
  have h : laidMet Tryd.prog Rows.fnPutNumberRow.laid W := by rw [MakeChecks.laidMetH_plain _ _ _ (by kernel_rfl)] at h0; exact h0
  obtain ⟨t0, l, hl⟩ := formTz
  rw [hl] at h
  exact (Lib.tabIs_of_head (g := 9) (by kernel_rfl) (by kernel_rfl) Tryd.underlying120 Tryd.underlying5 (by kernel_rfl) (by kernel_rfl) h.tail).cell (by kernel_rfl) 7 (by decide)
end Go.Proofs.YtagjbndcbcepcaaDoor.fnPutNumberLaid
