/- The block of a header as it is written: plain words on its bytes; what holds between the steps. -/
import Derived.Test.YtepeehjajhehfaaGreatDoorHd
import Derived.Test.YtepeehjajhehfaaGreatDoorChm
import Derived.Test.YtepeehjajhehfaaGreatDoorSplit
import Derived.Test.YtepeehjajhehfaaGreatDoorApp
import Derived.Test.YtepeehjajhehfaaGreatDoorR
namespace Go.Proofs.YtepeehjajhehfaaGreatDoor
open Go.RowKit Go.PlainAid
set_option linter.unusedVariables false

theorem splice_out {L cs : List UInt8} {off : Nat} (h : off + cs.length ≤ L.length) {i : Nat} (hi : i < off ∨ off + cs.length ≤ i) : (splice L off cs)[i]? = L[i]? := by
  rcases hi with hi | hi
  · unfold splice
    rw [List.getElem?_append_left (by rw [List.length_take]; omega), List.getElem?_take, if_pos hi]
  · exact splice_hi L off cs h i hi
theorem splice_in {L cs : List UInt8} {off : Nat} (h : off + cs.length ≤ L.length) {i : Nat} (h1 : off ≤ i) (h2 : i < off + cs.length) : (splice L off cs)[i]? = cs[i - off]? := by
  unfold splice
  rw [List.getElem?_append_right (by rw [List.length_take]; omega), List.length_take, Nat.min_eq_left (by omega), List.getElem?_append_left (by omega)]
/-- The last twelve bytes are noughts. -/
def Zt (bs : List UInt8) : Prop := ∀ i, 500 ≤ i → i < 512 → bs[i]? = some 0
def magic (b : Bool) : List UInt8 := if b then [117, 115, 116, 97, 114, 32, 32, 0] else [117, 115, 116, 97, 114, 0, 48, 48]
theorem magic_len (b : Bool) : (magic b).length = 8 := by cases b <;> rfl
/-- The magic stands in its place. -/
def Mg (b : Bool) (bs : List UInt8) : Prop := ∀ i, 257 ≤ i → i < 265 → bs[i]? = (magic b)[i - 257]?
theorem Zt.zbs_ : Zt (zbs 512) := fun i h1 h2 => by unfold zbs; rw [List.getElem?_replicate, if_pos h2]
theorem Zt.put {bs cs : List UInt8} {off : Nat} (h : Zt bs) (hl : bs.length = 512) (ho : off + cs.length ≤ 500) : Zt (splice bs off cs) := fun i h1 h2 => by
  rw [splice_out (by omega) (.inr (by omega))]
  exact h i h1 h2
theorem Mg.put {b : Bool} {bs cs : List UInt8} {off : Nat} (h : Mg b bs) (hl : bs.length = 512) (ho : off + cs.length ≤ 512) (hd : off + cs.length ≤ 257 ∨ 265 ≤ off) : Mg b (splice bs off cs) := fun i h1 h2 => by
  rw [splice_out (by omega) (by omega)]
  exact h i h1 h2
theorem Mg.new_ {b : Bool} {bs : List UInt8} (hl : bs.length = 512) : Mg b (splice bs 257 (magic b)) := fun i h1 h2 => by
  have := magic_len b
  exact splice_in (by omega) h1 (by omega)
theorem splice_len {L cs : List UInt8} {off : Nat} (h : off + cs.length ≤ L.length) : (splice L off cs).length = L.length := length_splice' L off cs h
/-- What holds between the steps: the chooser, the header, the block. -/
structure BS (Cb H g k : Nat) (h : Hd) (P : List UInt8 → Prop) (w0 w : World) : Prop where
  ch : Ch Cb k w
  hd : Blk w H 32 h.cells
  blk : ∃ bs : List UInt8, bs.length = 512 ∧ Zt bs ∧ P bs ∧ Blk w g 5 (bys bs)
  far : Far [Cb] w0 w
  c0 : Cb < H
  c1 : H < g
  c2 : w0.heap.size = H
theorem BS.gl {Cb H g k : Nat} {h : Hd} {P : List UInt8 → Prop} {w0 w : World} (s : BS Cb H g k h P w0 w) : g < w.heap.size := by obtain ⟨bs, _, _, _, hb⟩ := s.blk; exact hb.lt
theorem BS.below {Cb H g k : Nat} {h : Hd} {P : List UInt8 → Prop} {w0 w w' : World} (s : BS Cb H g k h P w0 w) (hb : Below w.heap.size w w') : BS Cb H g k h P w0 w' := by
  obtain ⟨bs, h1, h2, h3, h4⟩ := s.blk
  exact ⟨s.ch.below hb s.ch.lt, s.hd.below hb s.hd.lt, ⟨bs, h1, h2, h3, h4.below hb h4.lt⟩, s.far.trans (Far.of_below hb), s.c0, s.c1, s.c2⟩
/-- A row of the call's own grows besides. -/
theorem BS.grown {Cb H g k B : Nat} {h : Hd} {P : List UInt8 → Prop} {w0 w w' : World} (s : BS Cb H g k h P w0 w) (hb : Below B w w') (hB : g < B) : BS Cb H g k h P w0 w' := by
  obtain ⟨bs, h1, h2, h3, h4⟩ := s.blk
  have hh := s.c1
  have hc := s.c0
  have h0 := s.c2
  exact ⟨s.ch.below hb (by omega), s.hd.below hb (by omega), ⟨bs, h1, h2, h3, h4.below hb hB⟩, ⟨hb.os.trans s.far.os, hb.tape.trans s.far.tape, hb.output.trans s.far.output, Nat.le_trans s.far.size hb.size, fun j hj hn => (hb.block j (by omega)).trans (s.far.block j hj hn)⟩, s.c0, s.c1, s.c2⟩
theorem BS.drew {Cb H g k : Nat} {h : Hd} {P : List UInt8 → Prop} {w0 w : World} (s : BS Cb H g k h P w0 w) : BS Cb H g k h P w0 w.drew := s.below ((Below.refl _ _).drew)
theorem BS.alloc {Cb H g k : Nat} {h : Hd} {P : List UInt8 → Prop} {w0 w : World} (s : BS Cb H g k h P w0 w) (o : Obj) : BS Cb H g k h P w0 (w.alloc o) := s.below ((Below.refl _ _).alloc (Nat.le_refl _) o)
/-- A field is written. -/
theorem BS.put {Cb H g k k' off : Nat} {h : Hd} {P P' : List UInt8 → Prop} {bs f : List UInt8} {w0 w w' : World} (s : BS Cb H g k h P w0 w) (hl : bs.length = 512) (hz : Zt bs) (hch : Ch Cb k' w') (hb : Blk w' g 5 (bys (splice bs off f))) (hf : Far [Cb, g] w w') (ho : off + f.length ≤ 500) (hP : P' (splice bs off f)) : BS Cb H g k' h P' w0 w' := by
  have hh := s.c1
  have hc := s.c0
  have h0 := s.c2
  refine ⟨hch, s.hd.of_far hf (by simp; omega), ⟨_, by rw [splice_len (by omega), hl], hz.put hl ho, hP, hb⟩, ⟨hf.os.trans s.far.os, hf.tape.trans s.far.tape, hf.output.trans s.far.output, Nat.le_trans s.far.size hf.size, fun j hj hn => ?_⟩, s.c0, s.c1, s.c2⟩
  exact (hf.block j (Nat.lt_of_lt_of_le hj s.far.size) (by simp at hn ⊢; omega)).trans (s.far.block j hj hn)
theorem BS.of {Cb H g k k' : Nat} {h : Hd} {P : List UInt8 → Prop} {w0 w w' : World} (s : BS Cb H g k h P w0 w) (hch : Ch Cb k' w') (hf : Far [Cb] w w') : BS Cb H g k' h P w0 w' := by
  obtain ⟨bs, h1, h2, h3, h4⟩ := s.blk
  have hh := s.c1
  have hc := s.c0
  exact ⟨hch, s.hd.of_far hf (by simp; omega), ⟨bs, h1, h2, h3, h4.of_far hf (by simp; omega)⟩, s.far.trans hf, s.c0, s.c1, s.c2⟩
/-- A string is copied. -/
theorem BS.cpy {Cb H g k off : Nat} {h : Hd} {P P' : List UInt8 → Prop} {bs f : List UInt8} {w0 w w' : World} (s : BS Cb H g k h P w0 w) (hl : bs.length = 512) (hz : Zt bs) (hb : Blk w' g 5 (bys (splice bs off f))) (hg : w.grownBy w' (some g)) (ho : off + f.length ≤ 500) (hP : P' (splice bs off f)) : BS Cb H g k h P' w0 w' := by
  have hh := s.c1
  have hc := s.c0
  have hf : Far [g] w w' := Far.of_grown hg (fun j hj => by cases hj; simp)
  exact s.put hl hz (s.ch.far hf (fun j hj => by simp at hj; omega)) hb (Far.mono hf (fun j _ hj => by simp at hj; simp [hj])) ho hP
/-- What the block is. -/
def BlkOk (b : Bool) (bs : List UInt8) : Prop := ∃ (cs t : List UInt8) (D : Nat), bs = splice cs 148 (od D (SU cs) ++ t) ∧ cs.length = 512 ∧ D + t.length = 8 ∧ 6 ≤ D ∧ D ≤ 7 ∧ allEnd t ∧ Mg b bs ∧ Zt bs
def BlockP (Cb : Nat) (b : Bool) (w : World) (e : Ending) (w' : World) : Prop := ∃ (g : Nat) (bs : List UInt8), w.heap.size ≤ g ∧ e = .returned (.slice (some ⟨g, 0, none⟩) 512 512) ∧ BlkOk b bs ∧ bs.length = 512 ∧ Blk w' g 5 (bys bs) ∧ Far [Cb] w w'
theorem blockP_of {Cb H g k : Nat} {h : Hd} {b : Bool} {w0 w w' : World} {bs : List UInt8} {e : Ending} (s : BS Cb H g k h (Mg b) w0 w) (hl : bs.length = 512) (hz : Zt bs) (hm : Mg b bs) (hS : SumP Cb g 512 bs w e w') : BlockP Cb b w0 e w' := by
  obtain ⟨rfl, D, t, h1, h2, h3, h4, h5, hf⟩ := hS
  have hh := s.c1
  have hc := s.c0
  have h0 := s.c2
  have hlen : (od D (SU bs) ++ t).length = 8 := by rw [List.length_append, od_len]; exact h1
  refine ⟨g, _, by omega, rfl, ⟨bs, t, D, rfl, hl, h1, h2, h3, h4, hm.put hl (by omega) (by omega), hz.put hl (by omega)⟩, by rw [splice_len (by omega), hl], h5, ⟨hf.os.trans s.far.os, hf.tape.trans s.far.tape, hf.output.trans s.far.output, Nat.le_trans s.far.size hf.size, fun j hj hn => ?_⟩⟩
  exact (hf.block j (Nat.lt_of_lt_of_le hj s.far.size) (by simp at hn ⊢; omega)).trans (s.far.block j hj hn)
end Go.Proofs.YtepeehjajhehfaaGreatDoor
