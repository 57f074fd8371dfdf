/- Walks for the law FnPutText: formatString and its callers. -/
import Derived.Test.YtiahifohkhdmdaaDoorPut
namespace Go.Proofs.YtiahifohkhdmdaaDoor
open Go.RowKit Go.PlainAid
set_option linter.unusedVariables false

theorem padS_zero (s : ByteArray) (n : Nat) (h : s.size < n) : (padS s n).set s.size 0 = padS s n := by
  have hl : s.data.toList.length = s.size := (Lib.size_eq s).symm
  have e : padS s n = s.data.toList ++ zbs (n - s.size) := by
    unfold padS splice
    rw [List.take_of_length_le (l := s.data.toList) (by omega), List.take_zero, List.nil_append, Nat.zero_add, hl]
    simp [zbs]
  rw [e]
  apply List.ext_getElem
  · simp
  · intro i h1 h2
    rw [List.getElem_set]
    split
    · rename_i hi
      subst hi
      rw [List.getElem_append_right (by omega)]
      simp [zbs]
    · rfl
theorem bys_set0 (l : List UInt8) (i : Nat) : (bys l).set i (.int .u8 0) = bys (l.set i 0) := by
  simp [bys, List.map_set]

set_option maxRecDepth 20000 in
set_option maxHeartbeats 800000 in
theorem fmtFits (F G n B : Nat) (s : ByteArray) (w : World) (hF : Blk w F 55 [.nilIface]) (hG : Blk w G 5 (bys (zbs n))) (hBF : B ≤ F) (hBG : B ≤ G) (hne : F ≠ G) (hn : n ≤ 512) (hs : s.size ≤ n) :
    Calls Tryd.prog 24 #[.pointer (some ⟨F, 0, none⟩), .slice (some ⟨G, 0, none⟩) n n, .string s] w fun e w' =>
      e = .returned (.tuple #[]) ∧ Blk w' F 55 [.nilIface] ∧ Blk w' G 5 (bys (padS s n)) ∧ Below B w w' := by
  have HF := Lib.hid hF
  have HG := Lib.hid hG
  clear hF hG
  by_cases hlt : s.size < n
  · go_enter Tryd.func24, Tryd.ntmps24
    go_wp2_with (refine wpList_copy_string _ (o := ⟨some 18, _, _, _, _, _⟩) rfl (.tmp 16) (.tmp 17) 23 9 rfl 5 Tryd.underlying23 u8size G n n s rfl rfl (zbs n) _ HG.out (by rw [length_zbs]; omega) ?_)
    intro w2 hb2 hg2 hz2
    have HB2 : Hid (Blk w2 G 5 (bys (padS s n))) := hb2
    have HBE := Lib.hid (grownBy_below hg2 (B := B) (by have := HG.out.lt; omega) (fun g h => by cases h; omega))
    have HF2 := Lib.hid (HF.out.grown hg2 (by simp; omega))
    clear hb2 hg2 hz2
    have hcell : w2.cell? ⟨G, s.size, none⟩ = some (.int .u8 (byt (padS s n) s.size)) := by
      rw [HB2.out.cell]
      exact bys_get _ _ (by rw [length_padS]; omega)
    have hfz := HB2.out.frozen s.size
    go_wp2
    refine bodyPost_end (results_none rfl _ _ _) rfl ?_
    refine ⟨rfl, HF2.out.far hne _, ?_, HBE.out.setCell (by exact hBG) _⟩
    have h := HB2.out.set_ s.size (.int .u8 0)
    rw [bys_set0, padS_zero s n hlt] at h
    exact h
  · go_enter Tryd.func24, Tryd.ntmps24
    go_wp2_with (refine wpList_copy_string _ (o := ⟨some 18, _, _, _, _, _⟩) rfl (.tmp 16) (.tmp 17) 23 9 rfl 5 Tryd.underlying23 u8size G n n s rfl rfl (zbs n) _ HG.out (by rw [length_zbs]; omega) ?_)
    intro w2 hb2 hg2 hz2
    have HB2 : Hid (Blk w2 G 5 (bys (padS s n))) := hb2
    have HBE := Lib.hid (grownBy_below hg2 (B := B) (by have := HG.out.lt; omega) (fun g h => by cases h; omega))
    have HF2 := Lib.hid (HF.out.grown hg2 (by simp; omega))
    clear hb2 hg2 hz2
    go_wp2
    refine bodyPost_end (results_none rfl _ _ _) rfl ?_
    exact ⟨rfl, HF2.out, HB2.out, HBE.out⟩

set_option maxRecDepth 20000 in
set_option maxHeartbeats 1600000 in
theorem fmtLong (F G n B : Nat) (s : ByteArray) (u : TypeId) (pp : Addr) (w : World) (hF : Blk w F 55 [.nilIface]) (hG : Blk w G 5 (bys (zbs n))) (hBF : B ≤ F) (hBG : B ≤ G) (hne : F ≠ G) (hn1 : 1 ≤ n) (hn : n ≤ 512) (hs : n < s.size) (hm : s.size ≤ 4611686018427387904)
    (hE : w.cell? ⟨0, 0, none⟩ = some (.iface u (.pointer (some pp)))) :
    Calls Tryd.prog 24 #[.pointer (some ⟨F, 0, none⟩), .slice (some ⟨G, 0, none⟩) n n, .string s] w fun e w' =>
      e = .returned (.tuple #[]) ∧ w'.cell? ⟨F, 0, none⟩ = some (.iface u (.pointer (some pp))) ∧ Below B w w' := by
  have hf0 : w.cell? ⟨F, 0, none⟩ = some .nilIface := by rw [hF.cell]; rfl
  have hf1 := hF.frozen 0
  have HG := Lib.hid (hG.far (p := ⟨F, 0, none⟩) (Ne.symm hne) (.iface u (.pointer (some pp))))
  have HBE := Lib.hid ((Below.refl B w).setCell (p := ⟨F, 0, none⟩) (by exact hBF) (.iface u (.pointer (some pp))))
  have HC : Hid (Blk (w.setCell ⟨F, 0, none⟩ (.iface u (.pointer (some pp)))) F 55 [.iface u (.pointer (some pp))]) := hF.set_ 0 (.iface u (.pointer (some pp)))
  have HFL := Lib.hid hF.lt
  have HGL := Lib.hid hG.lt
  clear hF hG
  go_enter Tryd.func24, Tryd.ntmps24
  go_wp2_with (refine wpList_copy_string _ (o := ⟨some 18, _, _, _, _, _⟩) rfl (.tmp 16) (.tmp 17) 23 9 rfl 5 Tryd.underlying23 u8size G n n s rfl rfl (zbs n) _ HG.out (by rw [length_zbs]; omega) ?_)
  intro w2 hb2 hg2 hz2
  obtain ⟨X, hX⟩ : ∃ X, splice (zbs n) 0 (s.data.toList.take n) = X := ⟨_, rfl⟩
  have hXL : X.length = n := by rw [← hX]; exact length_padS s n
  rw [hX] at hb2
  have HB2 := Lib.hid hb2.out
  have HBE2 := Lib.hid (HBE.out.trans (grownBy_below hg2 (B := B) (by have := HFL.out; simp; omega) (fun g h => by cases h; omega)))
  have HC2 := Lib.hid (HC.out.grown hg2 (by simp; omega))
  clear hb2 hg2 hz2 hX hf0 hf1 hE
  have hcell : w2.cell? ⟨G, n - 1, none⟩ = some (.int .u8 (byt X (n - 1))) := by
    rw [HB2.out.cell]
    exact bys_get _ _ (by omega)
  have hfz := HB2.out.frozen
  have q1 : IntKind.i64.wrap ((n : Int) - 1) = (n : Int) - 1 := IntWalk.i64_in _ (by omega)
  have q2 : ((n : Int) - 1).toNat = n - 1 := by omega
  have q3 : (0 : Int) ≤ (n : Int) - 1 := by omega
  have q4 : (n : Int) - 1 < (n : Int) := by omega
  have q5 : (n : Int) - 1 ≤ (s.size : Int) := by omega
  have b1 := byt_lo X (n - 1)
  have b2 := byt_hi X (n - 1)
  by_cases h47 : byt X (n - 1) = 47
  · have h47' : (byt X (n - 1) == 47) = true := by rw [h47]; rfl
    clear h47
    go_wp2_with fail
    have hsz : (s.extract 0 (n - 1)).size = n - 1 := by rw [ByteArray.size_extract]; omega
    refine (trimSlash (s.extract 0 (n - 1)) _ (by omega)).mono ?_
    rintro e w' ⟨⟨m, hm', rfl⟩, k, rfl⟩
    have ht0 : ((s.extract 0 (n - 1)).extract 0 m).size = m := by rw [ByteArray.size_extract]; omega
    obtain ⟨t, ht⟩ : ∃ t, (s.extract 0 (n - 1)).extract 0 m = t := ⟨_, rfl⟩
    rw [ht] at ht0 ⊢
    have htn : t.size < n := by omega
    have HB3 := Lib.hid (HB2.out.drewN k)
    have HC3 := Lib.hid (HC2.out.drewN k)
    have HBE3 := Lib.hid (below_drewN HBE2.out k)
    clear hcell hfz ht ht0 hm' hsz q1 q2 q3 q4 q5 b1 b2 h47'
    obtain ⟨w3, hw3⟩ : ∃ w3, w3 = w2.drewN k := ⟨_, rfl⟩
    rw [← hw3] at HB3 HC3 HBE3 ⊢
    clear hw3
    have hcell : w3.cell? ⟨G, t.size, none⟩ = some (.int .u8 (byt X t.size)) := by
      rw [HB3.out.cell]
      exact bys_get _ _ (by omega)
    have hfz := HB3.out.frozen t.size
    have q6 : (t.size : Int) < (n : Int) := by omega
    go_wp2
    refine bodyPost_end (results_none rfl _ _ _) rfl ?_
    exact ⟨rfl, by rw [(HC3.out.far (p := ⟨G, t.size, none⟩) hne _).cell]; rfl, HBE3.out.setCell (by exact hBG) _⟩
  · have h47' : (byt X (n - 1) == 47) = false := by simpa using h47
    clear h47
    go_wp2
    refine bodyPost_end (results_none rfl _ _ _) rfl ?_
    exact ⟨rfl, by rw [HC2.out.cell]; rfl, HBE2.out⟩
end Go.Proofs.YtiahifohkhdmdaaDoor
