/- An argument that is a slice of structs of two strings, opened, and its bulk; a slice of bools. -/
import Derived.Test.YtlchagphjmfooaaDoorRecs
import Derived.Test.YtlchagphjmfooaaDoorRows
import Derived.ProofKit
import Derived.OpenShut
import Derived.Deep.Slices
import Derived.Deep.Matrix
import Derived.Deep.Grids
import Derived.ChangeSame
namespace Go.Proofs.YtlchagphjmfooaaDoor
open Go.RowKit Go.ChangeShapes Go.WideShapes Go.Deep

/-- A row of bools in memory. -/
def BoolRow (w : World) (B : Nat) (A : Option Addr) (n : Nat) (K : Nat → Bool) : Prop := ∀ j, j < n → ∃ b off, A = some ⟨b, off, none⟩ ∧ b < B ∧ ∀ i, i < n → w.cell? ⟨b, off + i, none⟩ = some (.bool (K i))
theorem bools_of_trod {H : Type} {enc : TypeId × Value → H} {P : Program} {w : World} {base : Nat} {held : Bool} {t e : TypeId} {fuel : Nat} {a : Option Addr} {len cap : Nat} {x : DataW H × List MemPlace} (ht : P.underlying t = some (.slice e)) (he : P.underlying e = some .bool) (hc : P.cellsOf e = 1)
    (h : DataW.trod enc P w base (fun _ => true) held fuel t (Value.slice a len cap).cells.toList = some x) : ∃ K : Nat → Bool, BoolRow w w.heap.size a len K ∧ len ≤ cap ∧ cap ≤ maxLen := by
  rcases Go.Deep.open_bools ht he hc h with ⟨hcs, _⟩ | ⟨ad, l, c, K, hcs, _, hl, hm, _, hcell⟩
  · simp [Value.cells] at hcs
    obtain ⟨rfl, rfl, rfl⟩ := hcs
    exact ⟨fun _ => false, fun i hi => by omega, by omega, by decide⟩
  · simp [Value.cells] at hcs
    obtain ⟨rfl, rfl, rfl⟩ := hcs
    refine ⟨K, fun j hj => ?_, hl, hm⟩
    obtain ⟨b, off, spot⟩ := ad
    have h0 := hcell 0 (by omega)
    have hs : spot = none := by simpa [Addr.add] using World.cell?_spot h0
    subst hs
    refine ⟨b, off, rfl, ?_, fun i hi => ?_⟩
    · have := block_lt_of_cell h0
      simpa [Addr.add] using this
    · have := hcell i (by omega)
      rwa [Addr.add_lit] at this

theorem list_of_each {α : Type} (d : α) : ∀ (n : Nat) (Q : Nat → α → Prop), (∀ i, i < n → ∃ p, Q i p) → ∃ ps : List α, ps.length = n ∧ ∀ i, i < n → Q i (ps.getD i d)
  | 0, _, _ => ⟨[], rfl, fun i hi => by omega⟩
  | n + 1, Q, h => by
    obtain ⟨ps, hl, hq⟩ := list_of_each d n Q (fun i hi => h i (by omega))
    obtain ⟨p, hp⟩ := h n (by omega)
    refine ⟨ps ++ [p], by simp [hl], fun i hi => ?_⟩
    by_cases h1 : i < n
    · have : (ps ++ [p]).getD i d = ps.getD i d := by simp [List.getD, List.getElem?_append_left (show i < ps.length by omega)]
      rw [this]
      exact hq i h1
    · obtain rfl : i = n := by omega
      have : (ps ++ [p]).getD i d = p := by simp [List.getD, hl]
      rw [this]
      exact hp
/-- The bulk of records. -/
def bulkR (rs : List (ByteArray × ByteArray)) : Nat := (rs.map fun r => r.1.size + r.2.size + 3).sum
theorem bulk_slice {H : Type} (elems spare : List (DataW H)) : Rows.uptoBulkAll elems + 1 ≤ Rows.uptoBulk (.slice elems spare) := by
  simp only [Rows.uptoBulk]
  omega
theorem bulk_recs {H : Type} : ∀ (rs : List (ByteArray × ByteArray)) (D : List (DataW H)), rs.map (fun r => DataW.agg [.lit (.string r.1.data.toList), .lit (.string r.2.data.toList)]) = D → bulkR rs ≤ Rows.uptoBulkAll D
  | [], D, h => by subst h; simp [bulkR]
  | r :: rs, D, h => by
    subst h
    have ih := bulk_recs (H := H) rs _ rfl
    have e1 : r.1.data.toList.length = r.1.size := (Lib.size_eq r.1).symm
    have e2 : r.2.data.toList.length = r.2.size := (Lib.size_eq r.2).symm
    unfold bulkR at ih ⊢
    simp only [List.map_cons, List.sum_cons, Rows.uptoBulkAll, Rows.uptoBulk, e1, e2]
    omega

theorem BoolRow.below {w w' : World} {B C : Nat} {A : Option Addr} {len : Nat} {K : Nat → Bool} (h : BoolRow w B A len K) (hb : Below C w w') (hB : B ≤ C) : BoolRow w' B A len K := by
  intro i hi
  obtain ⟨b, off, rfl, hlt, hc⟩ := h i hi
  exact ⟨b, off, rfl, hlt, fun i hi => (hb.cell (p := ⟨b, off + i, none⟩) (Nat.lt_of_lt_of_le hlt hB)).trans (hc i hi)⟩
section
variable {H : Type} {enc : TypeId × Value → H} {P : Program} {w : World} {base : Nat} {spare : Nat → Bool} {held : Bool}
theorem recs_of_trod {t e : TypeId} {f0 f1 : Field} {fuel : Nat} {a : Option Addr} {len cap : Nat} {x : DataW H × List MemPlace} (ht : P.underlying t = some (.slice e)) (he : P.underlying e = some (.struct #[f0, f1]))
    (h0 : P.underlying f0.type = some .string) (h1 : P.underlying f1.type = some .string) (ho0 : f0.offset = 0) (ho1 : f1.offset = 1) (hc0 : P.cellsOf f0.type = 1) (hc1 : P.cellsOf f1.type = 1) (hC : P.cellsOf e = 2)
    (h : DataW.trod enc P w base spare held fuel t (Value.slice a len cap).cells.toList = some x) :
    ∃ rs : List (ByteArray × ByteArray), rs.length = len ∧ RC w w.heap.size a (recsV rs) ∧ len ≤ cap ∧ cap ≤ maxLen ∧ bulkR rs ≤ Rows.uptoBulk x.1 := by
  rcases open_slice ht h with ⟨h1, rfl⟩ | ⟨ad, l, c, m, n, D, Pl, hcs, _, hl, hm, hmm, rfl, hi⟩
  · simp [Value.cells] at h1
    obtain ⟨rfl, rfl, rfl⟩ := h1
    exact ⟨[], rfl, RC.nil_, Nat.le_refl _, by decide, by simp [bulkR]⟩
  · simp [Value.cells] at hcs
    obtain ⟨rfl, rfl, rfl⟩ := hcs
    have hlm : len ≤ m := by rw [hmm]; split <;> omega
    have each : ∀ i, i < len → ∃ p : ByteArray × ByteArray, w.cell? ((ad.add (i * 2)).add 0) = some (.string p.1) ∧ w.cell? ((ad.add (i * 2)).add 1) = some (.string p.2) ∧ D i = .agg [.lit (.string p.1.data.toList), .lit (.string p.2.data.toList)] := by
      intro i hil
      obtain ⟨cs', hc, htr⟩ := hi i (by omega)
      rw [hC] at hc
      obtain ⟨_, hcl, hat⟩ := World.cells?_some hc
      obtain ⟨xs, n', _, hx, _, hlen, hg⟩ := DataW.trod_struct he htr
      have g0 := hg 0 f0 rfl
      have g1 := hg 1 f1 rfl
      rw [ho0, hc0] at g0
      rw [ho1, hc1] at g1
      match cs', hcl, xs, hlen with
      | [c0, c1], _, [y0, y1], _ =>
        simp at g0 g1
        obtain ⟨s0, e0, d0, _⟩ := DataW.trod_string h0 g0
        obtain ⟨s1, e1, d1, _⟩ := DataW.trod_string h1 g1
        simp at e0 e1
        refine ⟨(s0, s1), ?_, ?_, ?_⟩
        · rw [hat 0 (by omega), e0]; rfl
        · rw [hat 1 (by omega), e1]; rfl
        · have := congrArg Prod.fst hx
          rw [d0, d1] at this
          exact this
    obtain ⟨ps, hpl, hq⟩ := list_of_each (⟨#[]⟩, ⟨#[]⟩) len _ each
    refine ⟨ps, hpl, fun hpos => ?_, hl, hm, ?_⟩
    · rw [length_recsV] at hpos
      obtain ⟨b, off, spot⟩ := ad
      have q0 := (hq 0 (by omega)).1
      have hs : spot = none := by simpa [Addr.add] using World.cell?_spot q0
      subst hs
      refine ⟨b, off, rfl, ?_, fun i v hv => ?_⟩
      · have := block_lt_of_cell q0
        simpa [Addr.add] using this
      · have hi2 : i < ps.length * 2 := by
          have := (List.getElem?_eq_some_iff.1 hv).1
          rwa [length_recsV] at this
        obtain ⟨k, hk⟩ : ∃ k, i = k * 2 ∨ i = k * 2 + 1 := ⟨i / 2, by omega⟩
        have ek : ps.getD k (⟨#[]⟩, ⟨#[]⟩) = (rk ps k, rv ps k) := by simp [rk, rv]
        rcases hk with rfl | rfl
        · rw [recsV_get1 ps k (by omega)] at hv
          obtain rfl := Option.some.inj hv
          have := (hq k (by omega)).1
          rw [ek] at this
          simp only [Addr.add_lit, Nat.add_zero] at this
          exact this
        · rw [recsV_get2 ps k (by omega)] at hv
          obtain rfl := Option.some.inj hv
          have := (hq k (by omega)).2.1
          rw [ek] at this
          simp only [Addr.add_lit] at this
          rw [← Nat.add_assoc]
          exact this
    · have hD : ps.map (fun r => DataW.agg (H := H) [.lit (.string r.1.data.toList), .lit (.string r.2.data.toList)]) = (List.range len).map D := by
        apply List.ext_getElem (by simp [hpl])
        intro i hi' hi''
        simp only [List.length_map] at hi'
        have := (hq i (by omega)).2.2
        rw [show ps.getD i (⟨#[]⟩, ⟨#[]⟩) = ps[i] by simp [List.getD, hi']] at this
        simp [this]
      have h3 := bulk_recs ps _ hD
      have h4 := bulk_slice (H := H) ((List.range len).map D) ((List.range (m - len)).map fun j => D (len + j))
      exact Nat.le_trans h3 (Nat.le_trans (Nat.le_succ _) h4)
end
end Go.Proofs.YtlchagphjmfooaaDoor
