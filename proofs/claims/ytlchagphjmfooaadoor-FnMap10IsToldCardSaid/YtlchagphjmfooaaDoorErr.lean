/- Listed sentinels: from the tied condition to the variables' cells; their pointers differ. -/
import Derived.Test.YtlchagphjmfooaaDoorRows
import Derived.Test.YtlchagphjmfooaaDoorW
import Derived.LaidLaws
import Derived.LaidMore
import Derived.ProofKit
import Derived.Stop.ErrReads
import Derived.LaidEql
namespace Go.Proofs.YtlchagphjmfooaaDoor
open Go.ChangeShapes Go.WideShapes Go.RowKit

theorem lt_of_cell' {w : World} {p : Addr} {v : Value} (h : w.cell? p = some v) : p.block < w.heap.size := by
  rcases Nat.lt_or_ge p.block w.heap.size with h1 | h1
  · exact h1
  · simp [World.cell?, Array.getElem?_eq_none h1] at h
theorem cellsES' : Tryd.prog.cellsOf 228 = 1 := by kernel_rfl
theorem cellsStr' : Tryd.prog.cellsOf 9 = 1 := by kernel_rfl
theorem starES' : "*" ++ "errors.errorString" = "*errors.errorString" := by decide
theorem rowES' (u : TypeId) (h : Tryd.prog.typeName? 3 u = some "*errors.errorString") : u = 226 :=
  typeName_ptr_named (nm := "errors.errorString") (by rw [starES']; kernel_rfl) (by kernel_rfl) (by decide) u (by rw [starES']; exact h)

/-- A list of sentinels as the rows list them. -/
def sentL (l : List (String × List UInt8)) : List (String × DataW Unit) := l.map fun x => (x.1, .iface "*errors.errorString" (.ptr (.agg [.lit (.string x.2)])))
/-- What a sentinel's variable holds. -/
def errV (a : Addr) : Value := .iface 226 (.pointer (some a))
/-- A sentinel's variable: it holds a pointer to a whole block; both lie below B. -/
structure Err (B : Nat) (w : World) (g : Nat) (a : Addr) : Prop where
  cell : w.cell? ⟨g, 0, none⟩ = some (errV a)
  blk : ∃ c t, w.heap[a.block]? = some (.cells c t (0, 0))
  lg : g < B
  la : a.block < B
theorem Err.below {B C : Nat} {w w' : World} {g : Nat} {a : Addr} (h : Err B w g a) (hb : Below C w w') (hB : B ≤ C) : Err B w' g a := by
  obtain ⟨c, t, hc⟩ := h.blk
  exact ⟨(hb.cell (p := ⟨g, 0, none⟩) (Nat.lt_of_lt_of_le h.lg hB)).trans h.cell, ⟨c, t, (hb.block a.block (Nat.lt_of_lt_of_le h.la hB)).trans hc⟩, h.lg, h.la⟩
/-- .. below a later heap's size. -/
theorem Err.more {w w' : World} {g : Nat} {a : Addr} (h : Err w.heap.size w g a) (hb : Below w.heap.size w w') : Err w'.heap.size w' g a := by
  have h1 := h.below hb (Nat.le_refl _)
  exact ⟨h1.cell, h1.blk, Nat.lt_of_lt_of_le h1.lg hb.size, Nat.lt_of_lt_of_le h1.la hb.size⟩
/-- The variables of the list hold pointers. -/
inductive Held (w : World) : List (String × List UInt8) → List Addr → Prop
  | nil : Held w [] []
  | cons {x l g a al} : Tryd.prog.globalNamed x.1 = some g → Err w.heap.size w g a → Held w l al → Held w (x :: l) (a :: al)

set_option maxRecDepth 100000 in
theorem held_of_vars {w : World} : ∀ (l : List (String × List UInt8)) (ps : List MemPlace), (∀ x ∈ l, ∃ g, Tryd.prog.globalNamed x.1 = some g ∧ (Tryd.prog.globals[g]?).map (·.type) = some 105) →
    DataW.LaidVars Tryd.prog w (sentL l) ps → (∀ b off, MemPlace.cell b off ∈ ps → (∃ c t, w.heap[b]? = some (.cells c t (0, 0))) ∧ ∀ u v, w.cell? ⟨b, off, none⟩ = some (.iface u v) → Value.okWide Tryd.prog w .any 0 u v) →
    ∃ al, Held w l al ∧ (∀ a ∈ al, MemPlace.cell a.block a.off ∈ ps) ∧ (ps.Nodup → al.Nodup)
  | [], ps, _, _, _ => by
    refine ⟨[], Held.nil, ?_, ?_⟩
    · intro a ha; simp at ha
    · intro _; exact List.nodup_nil
  | (n, text) :: r, ps, hg, h, hrows => by
    obtain ⟨g0, t0, cs0, f0, p0, q0, hg0, ht0, hv0, hd0, hr, rfl⟩ := h
    obtain ⟨g1, e1, e2⟩ := hg (n, text) (by simp)
    obtain rfl := Option.some.inj (e1.symm.trans hg0)
    obtain rfl := Option.some.inj (e2.symm.trans ht0)
    obtain ⟨l0⟩ := cs0
    have ok0 : ∀ u v, l0 = [.iface u v] → Value.okWide Tryd.prog w .any 0 u v := fun u v e => by
      subst e
      exact (hrows g1 0 (by simp [MemPlace.row])).2 u v (by simpa using World.var?_cell hg0 hv0 0)
    obtain ⟨a0, s0, rfl, hc0, hs0, hz0, rfl⟩ := errorString_of_trod Tryd.underlying105 rowES' Tryd.underlying226 Tryd.underlying228 rfl rfl Tryd.underlying9 cellsES' cellsStr' hd0 ok0
    obtain ⟨al, h1, h2, h3⟩ := held_of_vars r q0 (fun x hx => hg x (List.mem_cons_of_mem _ hx)) hr (fun b off hb => hrows b off (List.mem_append_right _ hb))
    have hcell : w.cell? ⟨g1, 0, none⟩ = some (errV a0) := by simpa [errV] using World.var?_cell hg0 hv0 0
    have hin0 : MemPlace.cell a0.block a0.off ∈ MemPlace.row a0 1 := by simp [MemPlace.row]
    have herr : Err w.heap.size w g1 a0 := ⟨hcell, (hrows a0.block a0.off (List.mem_append_left _ (List.mem_append_right _ hin0))).1, lt_of_cell' hcell, lt_of_cell' hc0⟩
    refine ⟨a0 :: al, .cons hg0 herr h1, fun a ha => ?_, fun hnd => ?_⟩
    · rcases List.mem_cons.1 ha with rfl | ha
      · exact List.mem_append_left _ (List.mem_append_right _ hin0)
      · exact List.mem_append_right _ (h2 a ha)
    · rw [List.nodup_append] at hnd
      obtain ⟨_, hn2, hn3⟩ := hnd
      refine List.nodup_cons.2 ⟨fun hin => ?_, h3 hn2⟩
      exact hn3 _ (List.mem_append_right _ hin0) _ (h2 a0 hin) rfl

set_option maxRecDepth 100000 in
theorem held_of_laid {w : World} (l : List (String × List UInt8)) (hg : ∀ x ∈ l, ∃ g, Tryd.prog.globalNamed x.1 = some g ∧ (Tryd.prog.globals[g]?).map (·.type) = some 105) (h : laidMet Tryd.prog (sentL l) w) :
    ∃ al, Held w l al ∧ al.Nodup := by
  obtain ⟨ps, hv, hnd, hrows⟩ := h
  obtain ⟨al, h1, _, h3⟩ := held_of_vars l ps hg hv hrows
  exact ⟨al, h1, h3 hnd⟩

theorem infoPtr : ∃ i, Tryd.prog.info? 226 = some i ∧ i.comparable = true := by
  have h : (Tryd.prog.info? 226).map (·.comparable) = some true := by kernel_rfl
  cases e : Tryd.prog.info? 226 with
  | none => simp [e] at h
  | some i => exact ⟨i, rfl, by simpa [e] using h⟩
theorem infoES : ∃ j, Tryd.prog.info? 228 = some j ∧ j.size ≠ 0 := by
  have h : (Tryd.prog.info? 228).map (·.size) = some 1 := by kernel_rfl
  cases e : Tryd.prog.info? 228 with
  | none => simp [e] at h
  | some j =>
    have h1 : j.size = 1 := by simpa [e] using h
    exact ⟨j, rfl, by omega⟩
theorem err_eq (w : World) (a : Addr) : (binOp .eql 105 (errV a) (errV a)).run Tryd.prog w = .ok (.bool true) w := by
  obtain ⟨i, h1, h2⟩ := infoPtr
  obtain ⟨j, h3, h4⟩ := infoES
  exact run_eql_iface_ptr_same w a Tryd.underlying105 Tryd.underlying226 h1 h2 h3
theorem err_ne {B B' : Nat} {w : World} {g g' : Nat} {a b : Addr} (ha : Err B w g a) (hb : Err B' w g' b) (hne : a ≠ b) : (binOp .eql 105 (errV a) (errV b)).run Tryd.prog w = .ok (.bool false) w := by
  obtain ⟨i, h1, h2⟩ := infoPtr
  obtain ⟨j, h3, h4⟩ := infoES
  obtain ⟨c, t, hc⟩ := ha.blk
  obtain ⟨c', t', hc'⟩ := hb.blk
  exact run_eql_iface_ptr_other w Tryd.underlying105 Tryd.underlying226 h1 h2 h3 h4 hne hc hc'

end Go.Proofs.YtlchagphjmfooaaDoor
