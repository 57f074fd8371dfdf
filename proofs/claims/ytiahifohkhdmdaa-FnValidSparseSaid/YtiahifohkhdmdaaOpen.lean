/- Arguments that are slices of pieces, opened: over any program. No condition. -/
import Derived.Test.YtiahifohkhdmdaaPieces
import Derived.ProofKit
import Derived.OpenShut
import Derived.Deep.Slices
import Derived.ChangeSame
namespace Go.Proofs.Ytiahifohkhdmdaa
open Go.RowKit Go.ChangeShapes Go.WideShapes Go.Deep

theorem list_of_each {α : Type} (d : α) : ∀ (n : Nat) (Q : Nat → α → Prop), (∀ i, i < n → ∃ p, Q i p) → ∃ ps : List α, ps.length = n ∧ ∀ i, i < n → Q i (ps.getD i d)
  | 0, _, _ => ⟨[], rfl, fun i hi => by omega⟩
  | n + 1, Q, h => by
    obtain ⟨ps, hl, hq⟩ := list_of_each d n Q (fun i hi => h i (by omega))
    obtain ⟨p, hp⟩ := h n (by omega)
    refine ⟨ps ++ [p], by simp [hl], fun i hi => ?_⟩
    by_cases h1 : i < n
    · have : (ps ++ [p]).getD i d = ps.getD i d := by simp [List.getD, List.getElem?_append_left (show i < ps.length by omega)]
      rw [this]
      exact hq i h1
    · obtain rfl : i = n := by omega
      have : (ps ++ [p]).getD i d = p := by simp [List.getD, hl]
      rw [this]
      exact hp

section
variable {H : Type} {enc : TypeId × Value → H} {P : Program} {w : World} {base : Nat} {spare : Nat → Bool} {held : Bool}
/-- An argument that is a slice of structs of two numbers. -/
theorem pieces_of_trod {t e : TypeId} {f0 f1 : Field} {fuel : Nat} {a : Option Addr} {len cap : Nat} {x : DataW H × List MemPlace} (ht : P.underlying t = some (.slice e)) (he : P.underlying e = some (.struct #[f0, f1]))
    (h0 : P.underlying f0.type = some (.int .i64)) (h1 : P.underlying f1.type = some (.int .i64)) (ho0 : f0.offset = 0) (ho1 : f1.offset = 1) (hc0 : P.cellsOf f0.type = 1) (hc1 : P.cellsOf f1.type = 1) (hC : P.cellsOf e = 2)
    (h : DataW.trod enc P w base spare held fuel t (Value.slice a len cap).cells.toList = some x) :
    ∃ ps : List (Int × Int), ps.length = len ∧ RC w w.heap.size a (pcs ps) ∧ Fit ps ∧ len ≤ 9223372036854775807 ∧ len ≤ cap ∧ (a = none → cap = 0) := by
  rcases open_slice ht h with ⟨h1, _⟩ | ⟨ad, l, c, m, n, D, Pl, hcs, _, hl, hm, hmm, _, hi⟩
  · simp [Value.cells] at h1
    obtain ⟨rfl, rfl, rfl⟩ := h1
    exact ⟨[], rfl, RC.nil_, fun p hp => by simp at hp, by omega, Nat.le_refl _, fun _ => rfl⟩
  · simp [Value.cells] at hcs
    obtain ⟨rfl, rfl, rfl⟩ := hcs
    have hlm : len ≤ m := by rw [hmm]; split <;> omega
    have each : ∀ i, i < len → ∃ p : Int × Int, w.cell? ((ad.add (i * 2)).add 0) = some (.int .i64 p.1) ∧ w.cell? ((ad.add (i * 2)).add 1) = some (.int .i64 p.2) ∧ (Lit.int .i64 p.1).wf = true ∧ (Lit.int .i64 p.2).wf = true := by
      intro i hil
      obtain ⟨cs', hc, htr⟩ := hi i (by omega)
      rw [hC] at hc
      obtain ⟨_, hcl, hat⟩ := World.cells?_some hc
      obtain ⟨xs, n', _, _, _, hlen, hg⟩ := DataW.trod_struct he htr
      have g0 := hg 0 f0 rfl
      have g1 := hg 1 f1 rfl
      rw [ho0, hc0] at g0
      rw [ho1, hc1] at g1
      match cs', hcl, xs, hlen with
      | [c0, c1], _, [y0, y1], _ =>
        simp at g0 g1
        obtain ⟨z0, e0, _, w0⟩ := DataW.trod_int h0 g0
        obtain ⟨z1, e1, _, w1⟩ := DataW.trod_int h1 g1
        simp at e0 e1
        refine ⟨(z0, z1), ?_, ?_, w0, w1⟩
        · rw [hat 0 (by omega), e0]; rfl
        · rw [hat 1 (by omega), e1]; rfl
    obtain ⟨ps, hpl, hq⟩ := list_of_each (0, 0) len _ each
    refine ⟨ps, hpl, fun hpos => ?_, fun p hp => ?_, by unfold maxLen at hm; omega, hl, (fun h => by cases h)⟩
    · rw [length_pcs] at hpos
      obtain ⟨b, off, spot⟩ := ad
      have q0 := (hq 0 (by omega)).1
      have hs : spot = none := by simpa [Addr.add] using World.cell?_spot q0
      subst hs
      refine ⟨b, off, rfl, ?_, fun i v hv => ?_⟩
      · have := block_lt_of_cell q0
        simpa [Addr.add] using this
      · have hi2 : i < ps.length * 2 := by
          have := (List.getElem?_eq_some_iff.1 hv).1
          rwa [length_pcs] at this
        obtain ⟨k, hk⟩ : ∃ k, i = k * 2 ∨ i = k * 2 + 1 := ⟨i / 2, by omega⟩
        rcases hk with rfl | rfl
        · rw [pcs_get1 ps k (by omega)] at hv
          obtain rfl := Option.some.inj hv
          have := (hq k (by omega)).1
          simp only [Addr.add_lit, Nat.add_zero] at this
          exact this
        · rw [pcs_get2 ps k (by omega)] at hv
          obtain rfl := Option.some.inj hv
          have := (hq k (by omega)).2.1
          simp only [Addr.add_lit] at this
          rw [← Nat.add_assoc]
          exact this
    · obtain ⟨i, hil, rfl⟩ := List.getElem_of_mem hp
      have := hq i (by omega)
      have e1 : ps.getD i (0, 0) = ps[i] := by simp [List.getD, hil]
      rw [e1] at this
      have b1 := wf_bounds_i64 this.2.2.1
      have b2 := wf_bounds_i64 this.2.2.2
      exact ⟨b1.1, b1.2, b2.1, b2.2⟩
end
end Go.Proofs.Ytiahifohkhdmdaa
