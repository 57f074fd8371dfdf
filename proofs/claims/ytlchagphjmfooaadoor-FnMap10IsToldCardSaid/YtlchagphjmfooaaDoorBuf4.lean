/- bytes.Buffer: grow behind reads, where the row has room once what was read is slid out. -/
import Derived.Test.YtlchagphjmfooaaDoorBuf3
import Derived.StillTailTactics
namespace Go.Proofs.YtlchagphjmfooaaDoor
open Go.RowKit Go.PlainAid
set_option linter.unusedVariables false

/-- What grow leaves. -/
def GrowB (b g : Nat) (D : List UInt8) (w : World) (e : Ending) (w' : World) : Prop :=
  e = .returned (.int .i64 D.length) ∧ ∃ g2 cap2 lr cur2, Blk w' b 153 (bufCells (.slice (some ⟨g2, 0, none⟩) (D.length + 512) cap2) 0 lr) ∧ w'.heap[g2]? = some (.cells cur2 5 (0, 0)) ∧ cur2.size = cap2 ∧ cur2.toList.take D.length = bys D ∧ D.length + 512 ≤ cap2 ∧ cap2 ≤ maxLen ∧ g2 ≠ b ∧ (g2 = g ∨ w.heap.size ≤ g2) ∧ Far [b, g] w w'
set_option maxRecDepth 20000 in
set_option maxHeartbeats 6400000 in
theorem bufGrowSlide (b g off l cap m : Nat) (lr : Int) (cur : Array Value) (D : List UInt8) (w : World) (h : BufAt b g off l cap lr cur D w) (hm : D.length = m) (h1 : 1 ≤ m) (hno : cap - l < 512) (hl : l ≤ 10000000) (hs : 512 + m ≤ cap / 2) :
    Calls Tryd.prog 102 #[.pointer (some ⟨b, 0, none⟩), .int .i64 512] w (GrowB b g D w) := by
  have c0 : w.cell? ⟨b, 0, none⟩ = some (.slice (some ⟨g, 0, none⟩) l cap) := by rw [h.blk.cell]; rfl
  have c1 : w.cell? ⟨b, 1, none⟩ = some (.int .i64 off) := by rw [h.blk.cell]; rfl
  have f0 := h.blk.frozen 0
  have f1 := h.blk.frozen 1
  have hbl := h.blk.lt
  have hlen := h.len
  have hle := h.le
  have hmx : cap ≤ 9223372036854775807 := h.big
  have hq := fun w => Lib.run_eql_slice_some_nil (P := Tryd.prog) w ⟨g, 0, none⟩ l cap Tryd.underlying62
  have HLN := fun w h0 => Lib.hid (bufLen b off l cap lr (some ⟨g, 0, none⟩) w h0 (by omega) (by omega))
  have hlm : l - off = m := by omega
  have HTG := fun w h0 => Lib.hid (Tryd.Buffer_tryGrow_none b (some ⟨g, 0, none⟩) l cap 512 w h0 hle h.big hno)
  have HROW : Hid (∀ w0 : World, w0.heap[g]? = w.heap[g]? → RB w0 (g + 1) (some ⟨g, off, none⟩) D) := Lib.hid (fun w0 e hp => ⟨g, off, rfl, Nat.lt_succ_self _, fun i hi => by
    have := h.cells i hi
    rw [← this]
    simp only [World.cell?, e]⟩)
  have HGL := Lib.hid (Lib.lt_of_heap h.row)
  have HNE := Lib.hid h.ne
  have HBLK := Lib.hid h.blk
  have HM := Lib.hid hm
  obtain ⟨q, hq2⟩ : ∃ q, cap / 2 = q := ⟨_, rfl⟩
  have v1 : ((m : Int) == 0) = false := by rw [beq_eq_false_iff_ne]; omega
  have v2 : (cap : Int).tdiv 2 = (q : Int) := by rw [Int.tdiv_eq_ediv_of_nonneg (by omega)]; omega
  have v3 : IntKind.i64.wrap ((q : Int)) = (q : Int) := IntWalk.i64_in _ (by omega)
  have v4 : IntKind.i64.wrap ((q : Int) - (m : Int)) = (q : Int) - (m : Int) := IntWalk.i64_in _ (by omega)
  have v5 : (512 : Int) ≤ (q : Int) - (m : Int) := by omega
  have v9 : IntKind.i64.wrap ((m : Int) + 512) = (m : Int) + 512 := IntWalk.i64_in _ (by omega)
  have v10 : (0 : Int) ≤ (off : Int) := by omega
  have v11 : (off : Int) ≤ (l : Int) := by omega
  have v12 : (off : Int) ≤ (cap : Int) := by omega
  have v13 : ¬ cap = off := by omega
  have v14 : (m : Int) + 512 ≤ (cap : Int) := by omega
  have v15 : (0 : Int) ≤ (m : Int) + 512 := by omega
  have hcp := fun w0 (e : w0.heap[g]? = w.heap[g]?) => run_copy_row (P := Tryd.prog) w0 62 62 3 5 g 0 l cap ⟨g, off, none⟩ (l - off) (cap - off) cur 5 (bys D) Tryd.underlying62 u8size (e.trans h.row) (by rw [length_bys]; show D.length = min (l - off) l; omega) (fun j u hj => by
      have hjl : j < D.length := by have := (List.getElem?_eq_some_iff.1 hj).1; rwa [length_bys] at this
      rw [bys_get D j hjl] at hj
      rw [← Option.some.inj hj, Addr.add_lit, ← h.cells j hjl]
      simp only [World.cell?, e]) (by rw [length_bys, h.size]; omega) (bys_one D)
  have HCP := Lib.hid hcp
  have HRC := Lib.hid h.row
  have HSZ := Lib.hid h.size
  have HBG := Lib.hid h.big
  have HLM := Lib.hid hlm
  clear h hm hq2 hs hlen hcp
  go_enter Tryd.func102, Tryd.ntmps102
  go_wp2_with fail
  refine (HLN _ HBLK.out).out.mono ?_
  rintro e w1 ⟨rfl, rfl⟩
  rw [HLM.out]
  go_wp2_with fail
  refine (HTG _ (by exact c0)).out.mono ?_
  rintro e w2 ⟨rfl, rfl⟩
  go_wp2_with fail
  have k0 : w.drew.cell? ⟨b, 0, none⟩ = some (.slice (some ⟨g, 0, none⟩) l cap) := c0
  have k1 : w.drew.cell? ⟨b, 1, none⟩ = some (.int .i64 off) := c1
  have kb : Hid (Blk w.drew b 153 (bufCells (.slice (some ⟨g, 0, none⟩) l cap) off lr)) := Lib.hid (HBLK.out.drewN 1)
  have kg : Hid (w.drew.heap[g]? = w.heap[g]?) := Lib.hid rfl
  have kf : Hid (Far [b, g] w w.drew) := Lib.hid (Far.refl _ _).drew
  generalize w.drew = W at k0 k1 kb kg kf ⊢
  go_still_tail 13, (by kernel_rfl)
  change wpList _ _ _ _ _ W.drew
  have hcopy := HCP.out W.drew kg.out
  rw [List.take_zero, List.nil_append, Nat.zero_add, HLM.out] at hcopy
  rw [length_bys, HM.out] at hcopy
  obtain ⟨Y, hY⟩ : ∃ Y, Y = (bys D ++ List.drop m cur.toList).toArray := ⟨_, rfl⟩
  rw [← hY] at hcopy
  have HYS : Hid (Y.size = cap) := Lib.hid (by rw [hY]; have := HSZ.out; have := HM.out; simp [length_bys]; omega)
  have HYT : Hid (Y.toList.take D.length = bys D) := Lib.hid (by rw [hY, ← length_bys D]; exact List.take_left)
  have hrow2 : Hid ((W.drew.setRow g Y).heap[g]? = some (.cells Y 5 (0, 0))) := Lib.hid (setRow_heap _ g cur Y _ _ (kg.out.trans HRC.out))
  have kb2 : Hid (Blk (W.drew.setRow g Y) b 153 (bufCells (.slice (some ⟨g, 0, none⟩) l cap) off lr)) := Lib.hid ((setRow_other W.drew g b Y (fun e => HNE.out e.symm)).trans kb.out)
  have kf2 : Hid (Far [b, g] w (W.drew.setRow g Y)) := Lib.hid (kf.out.trans ⟨rfl, rfl, rfl, by simp, fun k hk hns => setRow_other W.drew g k Y (fun e => hns (by rw [e]; simp))⟩)
  clear hY
  generalize W.drew.setRow g Y = W2 at hcopy hrow2 kb2 kf2
  have d0 : W2.cell? ⟨b, 0, none⟩ = some (.slice (some ⟨g, 0, none⟩) l cap) := by rw [kb2.out.cell]; rfl
  have d1 : W2.cell? ⟨b, 1, none⟩ = some (.int .i64 off) := by rw [kb2.out.cell]; rfl
  have e0 := kb2.out.frozen 0
  have e1 := kb2.out.frozen 1
  have HFIN : Hid (GrowB b g D w (.returned (.int .i64 (m : Int))) ((W2.setCell ⟨b, 1, none⟩ (.int .i64 0)).setCell ⟨b, 0, none⟩ (.slice (some ⟨g, 0, none⟩) (m + 512) cap))) := Lib.hid (by
    refine ⟨by rw [HM.out], g, cap, lr, Y, ?_, ?_, HYS.out, HYT.out, by rw [HM.out]; omega, HBG.out, HNE.out, .inl rfl, ?_⟩
    · rw [HM.out]
      exact (kb2.out.set_ 1 _).set_ 0 _
    · rw [Below.heap_setCell _ _ _ g HNE.out, Below.heap_setCell _ _ _ g HNE.out]
      exact hrow2.out
    · exact (kf2.out.setCell (p := ⟨b, 1, none⟩) (.inl (by simp)) _).setCell (p := ⟨b, 0, none⟩) (.inl (by simp)) _)
  go_wp2
  go_ret
  exact HFIN.out
end Go.Proofs.YtlchagphjmfooaaDoor
