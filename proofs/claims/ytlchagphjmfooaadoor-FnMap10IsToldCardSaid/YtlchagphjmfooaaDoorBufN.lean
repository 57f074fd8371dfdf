/- bytes.Buffer: Write of 512 bytes: the empty buffer; all ways in one. -/
import Derived.Test.YtlchagphjmfooaaDoorBufW
namespace Go.Proofs.YtlchagphjmfooaaDoor
open Go Go.RowKit Go.PlainAid
set_option linter.unusedVariables false

set_option maxRecDepth 20000 in
set_option maxHeartbeats 1600000 in
theorem writeNil (b gp : Nat) (T : TypeId) (lr : Int) (P : List UInt8) (w : World) (h : Blk w b 153 (bufCells (.slice none 0 0) 0 lr)) (hs : Blk w gp T (bys P)) (hP : P.length = 512) (h1 : gp ≠ b) :
    Calls Tryd.prog 87 #[.pointer (some ⟨b, 0, none⟩), .slice (some ⟨gp, 0, none⟩) 512 512] w fun e w' => e = .returned (.tuple #[.int .i64 512, .nilIface]) ∧ (∃ g' cap' lr' cur', BufAt b g' 0 512 cap' lr' cur' P w' ∧ w.heap.size ≤ g') ∧ Far [b] w w' := by
  have f2 := h.frozen 2
  have c2 : w.cell? ⟨b, 2, none⟩ = some (.int .i8 lr) := by rw [h.cell]; rfl
  have HB2 : Hid (Blk (w.setCell ⟨b, 2, none⟩ (.int .i8 0)) b 153 (bufCells (.slice none 0 0) 0 0)) := Lib.hid (h.set_ 2 _)
  have HSR : Hid (Blk (w.setCell ⟨b, 2, none⟩ (.int .i8 0)) gp T (bys P)) := Lib.hid (hs.far h1 _)
  have HF2 : Hid (Far [b] w (w.setCell ⟨b, 2, none⟩ (.int .i8 0))) := Lib.hid ((Far.refl _ _).setCell (p := ⟨b, 2, none⟩) (.inl (by simp)) _)
  have HP := Lib.hid hP
  have HNG : Hid (gp < w.heap.size) := Lib.hid hs.lt
  have HSZ : Hid ((w.setCell ⟨b, 2, none⟩ (.int .i8 0)).heap.size = w.heap.size) := Lib.hid (by simp [World.setCell])
  clear h hs hP
  go_enter Tryd.func87, Tryd.ntmps87
  go_wp2_with fail
  generalize w.setCell ⟨b, 2, none⟩ (.int .i8 0) = W1 at HB2 HSR HF2 HSZ ⊢
  have hc0 : W1.cell? ⟨b, 0, none⟩ = some (.slice none 0 0) := by rw [HB2.out.cell]; rfl
  refine (Tryd.Buffer_tryGrow_none b none 0 0 512 W1 hc0 (Nat.le_refl _) (Nat.zero_le _) (by omega)).mono ?_
  rintro e W1 ⟨rfl, rfl⟩
  clear hc0
  go_wp2_with fail
  refine (bufGrowNil b 0 W1 HB2.out).mono ?_
  rintro e W2 ⟨rfl, g2, cap2, lr2, cur2, hk2, hr2, hs2, hle2, hbig2, hne2, hg2, hf2⟩
  have hgp2 : gp ≠ g2 := by have := HNG.out; have := HSZ.out; omega
  have hsr2 : Blk W2 gp T (bys P) := HSR.out.of_far hf2 (by simp; omega)
  have HF3 : Hid (Far [b] w W2) := Lib.hid (HF2.out.trans hf2)
  have d0 : W2.cell? ⟨b, 0, none⟩ = some (.slice (some ⟨g2, 0, none⟩) 512 cap2) := by rw [hk2.cell]; rfl
  have hcopy := run_copy_row (P := Tryd.prog) W2 62 62 3 5 g2 0 512 cap2 ⟨gp, 0, none⟩ 512 512 cur2 5 (bys P) Tryd.underlying62 u8size hr2 (by rw [length_bys, HP.out]; rfl) (fun j v hj => by rw [Addr.add_lit, Nat.zero_add, hsr2.cell]; exact hj) (by rw [length_bys, HP.out, hs2]; omega) (bys_one P)
  rw [length_bys, HP.out] at hcopy
  have HEND := Lib.hid (buf_put (off := 0) (U := []) (M := 0) hk2 hr2 hs2 rfl hle2 hbig2 rfl hne2 HP.out)
  have HG2 : Hid (w.heap.size ≤ g2) := Lib.hid (by have := HSZ.out; omega)
  have HF4 : Hid (∀ Y, Far [b] w (W2.setRow g2 Y)) := Lib.hid (fun Y => ⟨HF3.out.os, HF3.out.tape, HF3.out.output, by simpa using HF3.out.size, fun k hk hns => (setRow_other W2 g2 k Y (fun e => by
    have := HG2.out
    omega)).trans (HF3.out.block k hk hns)⟩)
  generalize (cur2.toList.take 0 ++ bys P ++ cur2.toList.drop (0 + 512)).toArray = Y at hcopy HEND
  have v3 : (0 : Int) ≤ (cap2 : Int) := by omega
  have v4 : ¬ cap2 = 0 := by omega
  clear hk2 hr2 hs2 hsr2 HF3 hf2
  go_wp2
  go_ret2
  exact ⟨rfl, ⟨g2, cap2, lr2, Y, HEND.out, HG2.out⟩, HF4.out Y⟩
theorem bufWrite (b top G gp : Nat) (T : TypeId) (U P : List UInt8) (w : World) (h : BufS b top G U w) (hG : G ≤ 10000000) (hs : Blk w gp T (bys P)) (hP : P.length = 512) (h1 : gp ≠ b) (h2 : gp < top) (ht : top ≤ w.heap.size) :
    Calls Tryd.prog 87 #[.pointer (some ⟨b, 0, none⟩), .slice (some ⟨gp, 0, none⟩) 512 512] w fun e w' => e = .returned (.tuple #[.int .i64 512, .nilIface]) ∧ BufS b top (G + 512) (U ++ P) w' ∧ FarT top [b] w w' := by
  rcases h with ⟨rfl, lr, hb⟩ | ⟨hU, g, off, l, cap, lr, cur, hb, hl, hg⟩
  · refine (writeNil b gp T lr P w hb hs hP h1).mono ?_
    rintro e w' ⟨rfl, ⟨g', cap', lr', cur', hb', hg'⟩, hf⟩
    exact ⟨rfl, .inr ⟨by rw [List.nil_append, hP]; omega, g', 0, 512, cap', lr', cur', hb', by omega, by omega⟩, FarT.of_far hf ht (fun k hk _ => hk)⟩
  · have hbg : ∀ k ∈ [b, g], k < top → k ∈ [b] := fun k hk hlt => by
      simp at hk ⊢
      omega
    by_cases hroom : 512 ≤ cap - l
    · refine (writeRoom b g off l cap gp T lr cur U P w hb hroom (by omega) hs hP h1 (by omega)).mono ?_
      rintro e w' ⟨rfl, ⟨cur', hb'⟩, hf⟩
      exact ⟨rfl, .inr ⟨by rw [List.length_append]; omega, g, off, l + 512, cap, 0, cur', hb', by omega, hg⟩, FarT.of_far hf ht hbg⟩
    · refine (writeGrow b g off l cap gp T lr cur U P w hb (by omega) (by omega) hU hs hP h1 (by omega)).mono ?_
      rintro e w' ⟨rfl, ⟨g', cap', lr', cur', hb', hg'⟩, hf⟩
      have := hb.len
      exact ⟨rfl, .inr ⟨by rw [List.length_append]; omega, g', 0, U.length + 512, cap', lr', cur', hb', by omega, by omega⟩, FarT.of_far hf ht hbg⟩
end Go.Proofs.YtlchagphjmfooaaDoor
