/- The chooser of package spec: summed. -/
import Derived.Test.YtepeehjajhehfaaGreatDoorCho
import Derived.Test.YtepeehjajhehfaaGreatDoorStO
import Derived.Test.YtepeehjajhehfaaGreatDoorSumsLaw
namespace Go.Proofs.YtepeehjajhehfaaGreatDoor
open Go.RowKit Go.PlainAid
set_option linter.unusedVariables false

/-- The check sum of a block is written into it. -/
def SumP (Cb g cc : Nat) (bs : List UInt8) (w : World) (e : Ending) (w' : World) : Prop :=
  e = .returned (.slice (some ⟨g, 0, none⟩) 512 cc) ∧ ∃ (D : Nat) (t : List UInt8), D + t.length = 8 ∧ 6 ≤ D ∧ D ≤ 7 ∧ allEnd t ∧ Blk w' g 5 (bys (splice bs 148 (od D (SU bs) ++ t))) ∧ Far [Cb, g] w w'
theorem SU_bd (bs : List UInt8) : 0 ≤ SU bs ∧ SU bs ≤ 130560 := by
  have h := sumU_bd bs 512
  unfold SU
  omega

theorem boolRow2d (w : World) (x y : Bool) (T : TypeId) : BoolRow (w.alloc (.cells #[.bool x, .bool y] T)).drew (w.alloc (.cells #[.bool x, .bool y] T)).drew.heap.size (some ⟨w.heap.size, 0, none⟩) 2 (fun i => if i = 0 then x else y) := boolRow2 w x y T
theorem boolRow1d (w : World) (x : Bool) (T : TypeId) : BoolRow (w.alloc (.cells #[.bool x] T)).drew (w.alloc (.cells #[.bool x] T)).drew.heap.size (some ⟨w.heap.size, 0, none⟩) 1 (fun _ => x) := boolRow1 w x T
theorem below_al {w w3 : World} {o : Obj} (h : Below (w.alloc o).drew.heap.size (w.alloc o).drew w3) : Below w.heap.size w w3 :=
  (((Below.refl _ w).alloc (Nat.le_refl _) o).drew).trans (h.mono (by simp))
theorem below_al0 {w w3 : World} {o : Obj} (h : Below (w.alloc o).heap.size (w.alloc o) w3) : Below w.heap.size w w3 :=
  ((Below.refl _ w).alloc (Nat.le_refl _) o).trans (h.mono (by simp))
theorem rb_al0 {w w3 : World} {o : Obj} {T : TypeId} {bs : List UInt8} (h : Blk w3 (w.alloc o).heap.size T (bys bs)) : RB w3 (w.heap.size + 1 + 1) (some ⟨w.heap.size + 1, 0, none⟩) bs := by
  have h1 := RB.of_blk h
  simpa using h1
theorem rb_al {w w3 : World} {o : Obj} {T : TypeId} {bs : List UInt8} (h : Blk w3 (w.alloc o).drew.heap.size T (bys bs)) : RB w3 (w.heap.size + 1 + 1) (some ⟨w.heap.size + 1, 0, none⟩) bs := by
  have h1 := RB.of_blk h
  simpa using h1
set_option maxRecDepth 20000 in
set_option maxHeartbeats 3200000 in
theorem chSum (Cb k g cc : Nat) (bs : List UInt8) (w : World) (h : Ch Cb k w) (hg : Blk w g 5 (bys bs)) (hl : bs.length = 512) (hCg : Cb < g) (hcc : 512 ≤ cc) (hk : k ≤ 1000) :
    Calls Tryz.prog 48 #[.pointer (some ⟨Cb, 0, none⟩), .slice (some ⟨g, 0, none⟩) 512 cc] w (SumP Cb g cc bs w) := by
  have HG := Lib.hid hg
  have HCh := Lib.hid h
  have HLN := Lib.hid hl
  have HS := Lib.hid (specSums512 g cc bs _ w hg hl)
  obtain ⟨s1, s2⟩ := SU_bd bs
  obtain ⟨S, hS⟩ : ∃ S, SU bs = S := ⟨_, rfl⟩
  obtain ⟨S2, hS2⟩ : ∃ S, SS bs = S := ⟨_, rfl⟩
  rw [hS] at s1 s2 HS
  rw [hS2] at HS
  have HSU := Lib.hid hS
  have hfit : 148 + 8 ≤ bs.length := by omega
  have hcc' : (156 : Int) ≤ (cc : Int) := by omega
  have hcc2 : 156 ≤ cc := by omega
  clear hS hS2 hg h hl
  go_enter Tryz.func48, Tryz.ntmps48
  go_wp2_with (go_at_call 60; refine HS.out.mono ?_; rintro e w' ⟨rfl, rfl⟩)
  refine (chOf Cb k 2 _ HCh.out (by omega) (by omega) (by omega)).mono ?_
  rintro e w2 ⟨v, k2, hv, rfl, hk2, hch, hf⟩
  have HC2 := Lib.hid hch
  have HF2 : Hid (Far [Cb, g] w w2) := Lib.hid (Far.mono hf (fun j _ hj => by simp at hj; simp [hj]))
  have HG2 : Hid (Blk w2 g 5 (bys bs)) := Lib.hid (HG.out.of_far hf (by simp; omega))
  clear hch hf HS
  by_cases hv0 : v = 0
  · subst hv0
    go_wp2_with fail
    go_region_held3 (fun w' => Far [Cb, g] w2 w') (first | exact (Far.refl _ _).drew | assumption | exact Far.alloc (by assumption) _ | exact Far.of_below HB3.out | exact Far.trans (Far.of_below HB3.out) (Far.mono hb4.out (fun j _ hj => by simp at hj; simp [hj])))
      (first
      | (go_at_call 61; refine (specPutOctal 6 2 8 2 S _ 2 2 _ _ rfl rfl (by omega) (by omega) s1 (by omega) (boolRow2d _ _ _ _) (by omega) (by omega)).mono ?_; rintro e w3 ⟨rfl, ⟨t, ht, hte, hblk⟩, hb3⟩; have HB3 := Lib.hid (below_al hb3); have HRB := Lib.hid (rb_al hblk); have HTL : Hid ((od 6 S ++ t).length = 8) := Lib.hid (by rw [List.length_append, od_len, ht]); have HTK : Hid ((od 6 S ++ t).take 8 = od 6 S ++ t) := Lib.hid (List.take_of_length_le (by rw [HTL.out]; exact Nat.le_refl _)); have HTM : Hid (((od 6 S ++ t).take 8).length = 8) := Lib.hid (by rw [HTK.out, HTL.out]); have HG3 : Hid (Blk w3 g 5 (bys bs)) := Lib.hid (HG2.out.below HB3.out HG2.out.lt); have HTE := Lib.hid hte; have HTT := Lib.hid ht; clear hb3 hblk hte ht)
      | (refine step_copy_any rfl (.tmp 16) (.tmp 19) 35 35 rfl 5 Tryz.underlying35 u8size g 148 8 (cc - 148) 8 8 8 (some ⟨w2.heap.size + 1, 0, none⟩) (by simp [Act.eval]) (by simp [Act.eval]) bs (od 6 S ++ t) 5 _ HG3.out HTL.out HRB.out HTM.out (by omega) hfit ?_; intro w4 hg4 hb4))
    have HB4 : Hid (Blk w4 g 5 (bys (splice bs 148 (od 6 (SU bs) ++ t)))) := Lib.hid (by have h := hg4.out; rw [HTK.out] at h; rw [HSU.out]; exact h)
    have HF4 : Hid (Far [Cb, g] w w4) := Lib.hid (HF2.out.trans (Far.trans (Far.of_below HB3.out) (Far.mono hb4.out (fun j _ hj => by simp at hj; simp [hj]))))
    clear hg4 hb4
    go_wp2
    go_ret
    exact ⟨rfl, 6, t, by rw [HTT.out], by omega, by omega, HTE.out, HB4.out, HF4.out⟩
  · have hv1 : ((v : Int) == 0) = false := by rw [beq_eq_false_iff_ne]; omega
    go_wp2_with fail
    have HOF : Hid (∀ w0, w0 = w2 ∨ w0 = w2.drew → Calls Tryz.prog 45 #[.pointer (some ⟨Cb, 0, none⟩), .int .i64 2] w0 fun e w' => ∃ v : Nat, e = .returned (.int .i64 (v : Int)) ∧ Far [Cb, g] w2 w' ∧ Blk w' g 5 (bys bs)) := Lib.hid (by
      intro w0 h0
      have h1 : Ch Cb k2 w0 := by rcases h0 with rfl | rfl <;> exact ⟨HC2.out.ex⟩
      have h2 : Far [Cb, g] w2 w0 := by rcases h0 with rfl | rfl <;> first | exact Far.refl _ _ | exact (Far.refl _ _).drew
      have h3 : Blk w0 g 5 (bys bs) := by rcases h0 with rfl | rfl <;> exact HG2.out
      refine (chOf Cb k2 2 w0 h1 (by omega) (by omega) (by omega)).mono ?_
      rintro e w' ⟨v, k', _, rfl, _, _, hf⟩
      exact ⟨v, rfl, h2.trans (Far.mono hf (fun j _ hj => by simp at hj; simp [hj])), h3.of_far hf (by simp; omega)⟩)
    go_region_held3 (fun w' => Far [Cb, g] w2 w') (first | exact (Far.refl _ _).drew | exact HF5.out | assumption | exact Far.alloc HF5.out _ | exact HF5.out.trans (Far.of_below HB3.out) | exact (HF5.out.trans (Far.of_below HB3.out)).trans (Far.mono hb4.out (fun j _ hj => by simp at hj; simp [hj])))
      (first
      | (go_at_call 45; refine (HOF.out _ (Or.inr rfl)).mono ?_; rintro e w5 ⟨v9, rfl, hf5, hg5⟩; have HF5 := Lib.hid hf5; have HG5 := Lib.hid hg5; clear hf5 hg5)
      | (go_at_call 61; refine (specPutOctal 7 1 8 1 S _ 1 1 _ _ rfl rfl (by omega) (by omega) s1 (by omega) (boolRow1 _ _ _) (by omega) (by omega)).mono ?_; rintro e w3 ⟨rfl, ⟨t, ht, hte, hblk⟩, hb3⟩; have HB3 := Lib.hid (below_al0 hb3); have HRB := Lib.hid (rb_al0 hblk); have HTL : Hid ((od 7 S ++ t).length = 8) := Lib.hid (by rw [List.length_append, od_len, ht]); have HTK : Hid ((od 7 S ++ t).take 8 = od 7 S ++ t) := Lib.hid (List.take_of_length_le (by rw [HTL.out]; exact Nat.le_refl _)); have HTM : Hid (((od 7 S ++ t).take 8).length = 8) := Lib.hid (by rw [HTK.out, HTL.out]); have HG3 : Hid (Blk w3 g 5 (bys bs)) := Lib.hid (HG5.out.below HB3.out HG5.out.lt); have HTE := Lib.hid hte; have HTT := Lib.hid ht; clear hb3 hblk hte ht)
      | (refine step_copy_any rfl (.tmp 22) (.tmp 28) 35 35 rfl 5 Tryz.underlying35 u8size g 148 8 (cc - 148) 8 8 8 _ (by simp [Act.eval]) (by simp [Act.eval]) bs (od 7 S ++ t) 5 _ HG3.out HTL.out HRB.out HTM.out (by omega) hfit ?_; intro w4 hg4 hb4))
    have HB4 : Hid (Blk w4 g 5 (bys (splice bs 148 (od 7 (SU bs) ++ t)))) := Lib.hid (by have h := hg4.out; rw [HTK.out] at h; rw [HSU.out]; exact h)
    have HF4 : Hid (Far [Cb, g] w w4) := Lib.hid (HF2.out.trans ((HF5.out.trans (Far.of_below HB3.out)).trans (Far.mono hb4.out (fun j _ hj => by simp at hj; simp [hj]))))
    clear hg4 hb4
    go_wp2
    go_ret
    exact ⟨rfl, 7, t, by rw [HTT.out], by omega, by omega, HTE.out, HB4.out, HF4.out⟩
end Go.Proofs.YtepeehjajhehfaaGreatDoor
