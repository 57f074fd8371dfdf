/- A frame that names the blocks a call may turn. Over any program. No condition. -/
import Derived.Test.YtepeehjajhehfaaGreatDoorO
import Derived.Lib.SliceRun
import Derived.Deep.Upon
namespace Go.Proofs.YtepeehjajhehfaaGreatDoor
open Go.RowKit
set_option linter.unusedVariables false

/-- Only the blocks of S, and new ones, may have turned. -/
structure Far (S : List Nat) (w w' : World) : Prop where
  os : w'.os = w.os
  tape : w'.tape = w.tape
  output : w'.output = w.output
  size : w.heap.size ≤ w'.heap.size
  block : ∀ k, k < w.heap.size → k ∉ S → w'.heap[k]? = w.heap[k]?
section
variable {S T : List Nat} {a w w' : World} {B g n : Nat} {t e : TypeId} {xs : List Value} {bs : List UInt8}
theorem Far.refl (S : List Nat) (w : World) : Far S w w := ⟨rfl, rfl, rfl, Nat.le_refl _, fun _ _ _ => rfl⟩
theorem Far.trans (h : Far S a w) (k : Far S w w') : Far S a w' :=
  ⟨k.os.trans h.os, k.tape.trans h.tape, k.output.trans h.output, Nat.le_trans h.size k.size, fun i hi hs => (k.block i (Nat.lt_of_lt_of_le hi h.size) hs).trans (h.block i hi hs)⟩
theorem Far.mono (h : Far S a w) (hs : ∀ k, k < a.heap.size → k ∈ S → k ∈ T) : Far T a w := ⟨h.os, h.tape, h.output, h.size, fun k hk ht => h.block k hk (fun hk' => ht (hs k hk hk'))⟩
theorem Far.drew (h : Far S a w) : Far S a w.drew := ⟨h.os, h.tape, h.output, h.size, h.block⟩
theorem Far.drewN (h : Far S a w) (n : Nat) : Far S a (w.drewN n) := ⟨h.os, h.tape, h.output, h.size, h.block⟩
theorem Far.of_below (h : Below a.heap.size a w) : Far S a w := ⟨h.os, h.tape, h.output, h.size, fun k hk _ => h.block k hk⟩
theorem Far.below (h : Far S a w) (hs : ∀ k ∈ S, B ≤ k) (hB : B ≤ a.heap.size) : Below B a w := ⟨h.os, h.tape, h.output, h.size, fun k hk => h.block k (by omega) (fun hk' => by have := hs k hk'; omega)⟩
theorem Far.alloc (h : Far S a w) (o : Obj) : Far S a (w.alloc o) := h.trans (Far.of_below ((Below.refl _ _).alloc (Nat.le_refl _) o))
theorem Far.of_grown {row : Option Nat} (h : a.grownBy w row) (hs : ∀ k, row = some k → k ∈ S) : Far S a w := ⟨h.os, h.tape, h.output, h.size, fun k hk hns => h.block k hk (fun hr => hns (hs k hr.symm))⟩
theorem Far.setCell (h : Far S a w) {p : Addr} (hp : p.block ∈ S ∨ a.heap.size ≤ p.block) (u : Value) : Far S a (w.setCell p u) :=
  ⟨h.os, h.tape, h.output, by simpa [World.setCell] using h.size, fun k hk hns => (Below.heap_setCell w p u k (by
    rintro rfl
    rcases hp with hp | hp
    · exact hns hp
    · omega)).trans (h.block k hk hns)⟩
theorem Far.cell (h : Far S w w') {p : Addr} (hp : p.block < w.heap.size) (hs : p.block ∉ S) : w'.cell? p = w.cell? p := World.cell?_of_block (h.block p.block hp hs)
theorem Blk.of_far (h : Blk w g t xs) (hf : Far S w w') (hg : g ∉ S) : Blk w' g t xs := (hf.block g h.lt hg).trans h
theorem RC.of_far {A : Option Addr} (h : RC w B A xs) (hf : Far S w w') (hB : B ≤ w.heap.size) (hA : ∀ ad, A = some ad → ad.block ∉ S) : RC w' B A xs := fun hn => by
  obtain ⟨b, off, e, hb, hc⟩ := h hn
  subst e
  exact ⟨b, off, rfl, hb, fun i v hv => (hf.cell (p := ⟨b, off + i, none⟩) (by show b < _; omega) (show b ∉ S from hA _ rfl)).trans (hc i v hv)⟩
theorem RB.of_far {A : Option Addr} (h : RB w B A bs) (hf : Far S w w') (hB : B ≤ w.heap.size) (hA : ∀ ad, A = some ad → ad.block ∉ S) : RB w' B A bs := fun hn => by
  obtain ⟨b, off, e, hb, hc⟩ := h hn
  subst e
  exact ⟨b, off, rfl, hb, fun i hi => (hf.cell (p := ⟨b, off + i, none⟩) (by show b < _; omega) (show b ∉ S from hA _ rfl)).trans (hc i hi)⟩
theorem own_of_far {base m sz : Nat} {v : Value} (h : w.ownsRow base e sz v m xs) (hf : Far S w w') (hv : ∀ k, v.ownBlock = some k → k ∉ S) : w'.ownsRow base e sz v m xs := by
  refine ⟨h.1, ?_⟩
  rcases h.2 with h2 | ⟨g, cap, cur, rfl, hg, hh, r⟩
  · exact .inl h2
  · refine .inr ⟨g, cap, cur, rfl, hg, ?_, r⟩
    have hlt : g < w.heap.size := by
      rcases Nat.lt_or_ge g w.heap.size with hlt | hge
      · exact hlt
      · rw [Array.getElem?_eq_none hge] at hh; cases hh
    rw [hf.block g hlt (hv g rfl)]
    exact hh

/-- Storing what lies there already turns nothing. -/
theorem Blk.setCells_same (hne : ∀ i, xs.set i (xs.getD i default) = xs) : ∀ (vs : List Value) (o : Nat) (w : World), Blk w g t xs → (∀ j v, vs[j]? = some v → xs[o + j]? = some v) → Blk (w.setCells g o vs) g t xs
  | [], _, _, h, _ => h
  | v :: r, o, w, h, hv => by
    have h0 := hv 0 v rfl
    simp only [Nat.add_zero] at h0
    have h1 := h.set_ o v
    have e : xs.set o v = xs := by
      have := hne o
      rwa [List.getD_eq_getElem?_getD, h0, Option.getD_some] at this
    rw [e] at h1
    exact Blk.setCells_same hne r (o + 1) _ h1 (fun j u hu => by
      have := hv (j + 1) u hu
      rwa [show o + (j + 1) = o + 1 + j by omega] at this)
theorem set_getD_same {α : Type} [Inhabited α] (xs : List α) (i : Nat) : xs.set i (xs.getD i default) = xs := by
  apply List.ext_getElem?
  intro j
  rw [List.getElem?_set]
  by_cases h : i = j
  · subst h
    by_cases hi : i < xs.length
    · simp [hi, List.getD]
    · simp [hi]
  · simp [h]
theorem Far.setCells (hg : g ∈ S) : ∀ (vs : List Value) (o : Nat) (w : World), Far S a w → Far S a (w.setCells g o vs)
  | [], _, _, h => h
  | v :: r, o, w, h => Far.setCells hg r (o + 1) _ (h.setCell (p := ⟨g, o, none⟩) (.inl hg) v)
end
end Go.Proofs.YtepeehjajhehfaaGreatDoor
