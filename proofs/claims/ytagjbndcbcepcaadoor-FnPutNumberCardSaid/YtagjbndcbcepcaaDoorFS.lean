/- formatString of what fits (out of XPut, XPut2: for a seat without spec.PutText). -/
import Derived.Test.YtagjbndcbcepcaaDoorStr
import Derived.Test.YtagjbndcbcepcaaDoorText
import Derived.Deep.CutBlock
import Derived.Deep.DeepCutAuto
import Derived.Deep.RegionHeld3
namespace Go.Proofs.YtagjbndcbcepcaaDoor
open Go.RowKit Go.PlainAid
set_option linter.unusedVariables false
/-- A string laid at the beginning of a field of n bytes 0. -/
def padS (s : ByteArray) (n : Nat) : List UInt8 := splice (zbs n) 0 (s.data.toList.take n)
theorem length_padS (s : ByteArray) (n : Nat) : (padS s n).length = n := by
  unfold padS
  rw [length_splice _ _ _ (by simp [zbs, List.length_take]; omega)]
  simp [zbs]

theorem padS_zero (s : ByteArray) (n : Nat) (h : s.size < n) : (padS s n).set s.size 0 = padS s n := by
  have hl : s.data.toList.length = s.size := (Lib.size_eq s).symm
  have e : padS s n = s.data.toList ++ zbs (n - s.size) := by
    unfold padS splice
    rw [List.take_of_length_le (l := s.data.toList) (by omega), List.take_zero, List.nil_append, Nat.zero_add, hl]
    simp [zbs]
  rw [e]
  apply List.ext_getElem
  · simp
  · intro i h1 h2
    rw [List.getElem_set]
    split
    · rename_i hi
      subst hi
      rw [List.getElem_append_right (by omega)]
      simp [zbs]
    · rfl
theorem bys_set0 (l : List UInt8) (i : Nat) : (bys l).set i (.int .u8 0) = bys (l.set i 0) := by
  simp [bys, List.map_set]

set_option maxRecDepth 20000 in
set_option maxHeartbeats 800000 in
theorem fmtFits (v : Value) (F G n B : Nat) (s : ByteArray) (w : World) (hF : Blk w F 44 [v]) (hG : Blk w G 5 (bys (zbs n))) (hBF : B ≤ F) (hBG : B ≤ G) (hne : F ≠ G) (hn : n ≤ 512) (hs : s.size ≤ n) :
    Calls Tryd.prog 41 #[.pointer (some ⟨F, 0, none⟩), .slice (some ⟨G, 0, none⟩) n n, .string s] w fun e w' =>
      e = .returned (.tuple #[]) ∧ Blk w' F 44 [v] ∧ Blk w' G 5 (bys (padS s n)) ∧ Below B w w' := by
  have HF := Lib.hid hF
  have HG := Lib.hid hG
  clear hF hG
  by_cases hlt : s.size < n
  · go_enter Tryd.func41, Tryd.ntmps41
    go_wp2_with (refine wpList_copy_string _ (o := ⟨some 18, _, _, _, _, _⟩) rfl (.tmp 16) (.tmp 17) 22 9 rfl 5 Tryd.underlying22 u8size G n n s rfl rfl (zbs n) _ HG.out (by rw [length_zbs]; omega) ?_)
    intro w2 hb2 hg2 hz2
    have HB2 : Hid (Blk w2 G 5 (bys (padS s n))) := hb2
    have HBE := Lib.hid (grownBy_below hg2 (B := B) (by have := HG.out.lt; omega) (fun g h => by cases h; omega))
    have HF2 := Lib.hid (HF.out.grown hg2 (by simp; omega))
    clear hb2 hg2 hz2
    have hcell : w2.cell? ⟨G, s.size, none⟩ = some (.int .u8 (byt (padS s n) s.size)) := by
      rw [HB2.out.cell]
      exact bys_get _ _ (by rw [length_padS]; omega)
    have hfz := HB2.out.frozen s.size
    go_wp2
    refine bodyPost_end (results_none rfl _ _ _) rfl ?_
    refine ⟨rfl, HF2.out.far hne _, ?_, HBE.out.setCell (by exact hBG) _⟩
    have h := HB2.out.set_ s.size (.int .u8 0)
    rw [bys_set0, padS_zero s n hlt] at h
    exact h
  · go_enter Tryd.func41, Tryd.ntmps41
    go_wp2_with (refine wpList_copy_string _ (o := ⟨some 18, _, _, _, _, _⟩) rfl (.tmp 16) (.tmp 17) 22 9 rfl 5 Tryd.underlying22 u8size G n n s rfl rfl (zbs n) _ HG.out (by rw [length_zbs]; omega) ?_)
    intro w2 hb2 hg2 hz2
    have HB2 : Hid (Blk w2 G 5 (bys (padS s n))) := hb2
    have HBE := Lib.hid (grownBy_below hg2 (B := B) (by have := HG.out.lt; omega) (fun g h => by cases h; omega))
    have HF2 := Lib.hid (HF.out.grown hg2 (by simp; omega))
    clear hb2 hg2 hz2
    go_wp2
    refine bodyPost_end (results_none rfl _ _ _) rfl ?_
    exact ⟨rfl, HF2.out, HB2.out, HBE.out⟩
end Go.Proofs.YtagjbndcbcepcaaDoor
