/- An argument that is a slice of slices of bytes, opened; its bulk. -/
import Derived.Test.YtiahifohkhdmdaaDoorRegLoop
import Derived.Test.YtiahifohkhdmdaaDoorRows
import Derived.ProofKit
import Derived.OpenShut
import Derived.Deep.Slices
import Derived.Deep.Matrix
import Derived.ChangeSame
namespace Go.Proofs.YtiahifohkhdmdaaDoor
open Go.RowKit Go.ChangeShapes Go.WideShapes Go.Deep

theorem list_of_each' {α : Type} (d : α) : ∀ (n : Nat) (Q : Nat → α → Prop), (∀ i, i < n → ∃ p, Q i p) → ∃ ps : List α, ps.length = n ∧ ∀ i, i < n → Q i (ps.getD i d)
  | 0, _, _ => ⟨[], rfl, fun i hi => by omega⟩
  | n + 1, Q, h => by
    obtain ⟨ps, hl, hq⟩ := list_of_each' d n Q (fun i hi => h i (by omega))
    obtain ⟨p, hp⟩ := h n (by omega)
    refine ⟨ps ++ [p], by simp [hl], fun i hi => ?_⟩
    by_cases h1 : i < n
    · have : (ps ++ [p]).getD i d = ps.getD i d := by simp [List.getD, List.getElem?_append_left (show i < ps.length by omega)]
      rw [this]
      exact hq i h1
    · obtain rfl : i = n := by omega
      have : (ps ++ [p]).getD i d = p := by simp [List.getD, hl]
      rw [this]
      exact hp

theorem bulk_pos {H : Type} (d : DataW H) : 1 ≤ Rows.uptoBulk d := by
  cases d with
  | lit l => cases l <;> simp [Rows.uptoBulk]
  | nil => simp [Rows.uptoBulk]
  | ptr d => simp [Rows.uptoBulk]
  | slice elems spare => simp [Rows.uptoBulk]
  | agg parts => simp [Rows.uptoBulk]
  | iface t d => simp [Rows.uptoBulk]
  | map entries => simp [Rows.uptoBulk]
  | held h => simp [Rows.uptoBulk]
theorem bulk_length {H : Type} (l : List (DataW H)) : l.length ≤ Rows.uptoBulkAll l := by
  induction l with
  | nil => simp [Rows.uptoBulkAll]
  | cons x r ih => have := bulk_pos x; simp only [Rows.uptoBulkAll, List.length_cons]; omega
theorem bulk_slice {H : Type} (elems spare : List (DataW H)) : Rows.uptoBulkAll elems + 1 ≤ Rows.uptoBulk (.slice elems spare) := by
  simp only [Rows.uptoBulk]
  omega
theorem bulk_intRow {H : Type} (k : IntKind) (A : Option Addr) (L : Nat) (zs : List Int) (h : A = none → L = 0) (hz : L ≤ zs.length) : L + 1 ≤ Rows.uptoBulk (intRow (H := H) k A L zs) := by
  cases A with
  | none => obtain rfl := h rfl; exact bulk_pos _
  | some a =>
    have h1 := bulk_slice (H := H) (lits k (zs.take L)) (lits k (zs.drop L))
    have h2 := bulk_length (H := H) (lits k (zs.take L))
    have h3 : (lits (H := H) k (zs.take L)).length = L := by simp [lits]; omega
    show L + 1 ≤ Rows.uptoBulk (.slice _ _)
    omega
theorem bulk_sum {H : Type} (f : Nat → DataW H) (g : Nat → Nat) : ∀ l : List Nat, (∀ r ∈ l, g r + 1 ≤ Rows.uptoBulk (f r)) → (l.map g).sum + l.length ≤ Rows.uptoBulkAll (l.map f)
  | [], _ => by simp [Rows.uptoBulkAll]
  | x :: r, h => by
    have ih := bulk_sum f g r (fun y hy => h y (List.mem_cons_of_mem _ hy))
    have hx := h x (by simp)
    simp only [List.map_cons, List.sum_cons, List.length_cons, Rows.uptoBulkAll]
    omega

section
variable {H : Type} {enc : TypeId × Value → H} {P : Program} {w : World} {base : Nat} {held : Bool}
theorem parts_of_trod {t e q : TypeId} {fuel : Nat} {a : Option Addr} {len cap : Nat} {x : DataW H × List MemPlace} (ht : P.underlying t = some (.slice e)) (he : P.underlying e = some (.slice q)) (hq : P.underlying q = some (.int .u8))
    (ce : P.cellsOf e = 1) (cq : P.cellsOf q = 1) (h : DataW.trod enc P w base (fun _ => true) held fuel t (Value.slice a len cap).cells.toList = some x) :
    ∃ pl : List Part, pl.length = len ∧ RC w w.heap.size a (psl pl) ∧ (∀ p ∈ pl, PartOk w w.heap.size p) ∧ (pl.map (·.n)).sum + pl.length ≤ Rows.uptoBulk x.1 := by
  rcases open_int_rows ht he hq ce cq h with ⟨h1, rfl⟩ | ⟨ad, l, c, A, L, C, Z, hcs, _, hl, hm, rfl, hrow⟩
  · simp [Value.cells] at h1
    obtain ⟨rfl, rfl, rfl⟩ := h1
    exact ⟨[], rfl, RC.nil_, fun p hp => by simp at hp, by simp⟩
  · simp [Value.cells] at hcs
    obtain ⟨rfl, rfl, rfl⟩ := hcs
    have each : ∀ r, r < len → ∃ p : Part, p.A = A r ∧ p.n = L r ∧ p.c = C r ∧ PartOk w w.heap.size p := by
      intro r hr
      obtain ⟨_, q1, q2, q3, q4, q5, q6⟩ := hrow r (by omega)
      have hrow' : IsRow .u8 w (A r) (L r) (C r) (Z r) := by
        cases hA : A r with
        | none =>
          have h0 := q5 hA
          exact .inl ⟨rfl, by omega, h0, List.eq_nil_of_length_eq_zero (by omega)⟩
        | some ad' => exact .inr ⟨ad', rfl, q1, q2, q3, fun i hi => (q6 ad' hA).2 i (by omega), q4⟩
      obtain ⟨bs, hb1, hb2⟩ := rb_of_isRow hrow'
      exact ⟨⟨A r, L r, C r, bs⟩, rfl, rfl, rfl, hb1, q1, q5, hb2⟩
    obtain ⟨pl, hpl, hq⟩ := list_of_each' (⟨none, 0, 0, []⟩ : Part) len _ each
    refine ⟨pl, hpl, fun hpos => ?_, fun p hp => ?_, ?_⟩
    · rw [length_psl] at hpos
      obtain ⟨b, off, spot⟩ := ad
      have q0 := (hrow 0 (by omega)).1
      have hs : spot = none := by simpa [Addr.add] using World.cell?_spot q0
      subst hs
      refine ⟨b, off, rfl, ?_, fun i v hv => ?_⟩
      · have := block_lt_of_cell q0
        simpa [Addr.add] using this
      · have hi : i < pl.length := by
          have := (List.getElem?_eq_some_iff.1 hv).1
          rwa [length_psl] at this
        rw [psl_get pl i hi] at hv
        obtain rfl := Option.some.inj hv
        have h1 := (hrow i (by omega)).1
        obtain ⟨e1, e2, e3, _⟩ := hq i (by omega)
        rw [Addr.add_lit] at h1
        rw [h1]
        show _ = some (Value.slice _ _ _)
        unfold pat
        rw [e1, e2, e3]
    · obtain ⟨i, hi, rfl⟩ := List.getElem_of_mem hp
      have h1 := (hq i (by omega)).2.2.2
      rwa [show pl.getD i ⟨none, 0, 0, []⟩ = pl[i] by simp [List.getD, hi]] at h1
    · have h1 := bulk_sum (H := H) (fun r => intRow .u8 (A r) (L r) (Z r)) L (List.range len) (fun r hr => by
        have hr' := List.mem_range.1 hr
        obtain ⟨_, q1, q2, q3, q4, q5, q6⟩ := hrow r (by omega)
        exact bulk_intRow _ _ _ _ (fun hA => by have := q5 hA; omega) (by omega))
      have h2 := bulk_slice (H := H) ((List.range len).map fun r => intRow .u8 (A r) (L r) (Z r)) ((List.range (cap - len)).map fun j => intRow .u8 (A (len + j)) (L (len + j)) (Z (len + j)))
      have h3 : pl.map (·.n) = (List.range len).map L := by
        apply List.ext_getElem (by simp [hpl])
        intro i hi hi'
        simp only [List.length_map] at hi
        have := (hq i (by omega)).2.1
        rw [show pl.getD i ⟨none, 0, 0, []⟩ = pl[i] by simp [List.getD, hi]] at this
        simpa using this
      rw [h3, hpl]
      simp only [List.length_range] at h1
      exact Nat.le_trans (Nat.le_trans h1 (Nat.le_succ _)) h2
end
end Go.Proofs.YtiahifohkhdmdaaDoor
