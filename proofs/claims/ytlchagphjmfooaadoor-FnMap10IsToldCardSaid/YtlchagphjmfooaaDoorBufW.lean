/- bytes.Buffer: Write of 512 bytes, behind reads. -/
import Derived.Test.YtlchagphjmfooaaDoorBuf5
namespace Go.Proofs.YtlchagphjmfooaaDoor
open Go Go.RowKit Go.PlainAid
set_option linter.unusedVariables false

/-- Of the blocks below top only those of S may have turned. -/
structure FarT (top : Nat) (S : List Nat) (w w' : World) : Prop where
  os : w'.os = w.os
  tape : w'.tape = w.tape
  output : w'.output = w.output
  size : w.heap.size ≤ w'.heap.size
  block : ∀ k, k < top → k ∉ S → w'.heap[k]? = w.heap[k]?
section
variable {top g B : Nat} {S S' : List Nat} {a w w' : World} {t : TypeId} {xs : List Value}
theorem FarT.refl (top : Nat) (S : List Nat) (w : World) : FarT top S w w := ⟨rfl, rfl, rfl, Nat.le_refl _, fun _ _ _ => rfl⟩
theorem FarT.trans (h : FarT top S a w) (k : FarT top S w w') : FarT top S a w' :=
  ⟨k.os.trans h.os, k.tape.trans h.tape, k.output.trans h.output, Nat.le_trans h.size k.size, fun i hi hs => (k.block i hi hs).trans (h.block i hi hs)⟩
theorem FarT.of_far (h : Far S' w w') (ht : top ≤ w.heap.size) (hs : ∀ k ∈ S', k < top → k ∈ S) : FarT top S w w' :=
  ⟨h.os, h.tape, h.output, h.size, fun k hk hn => h.block k (by omega) (fun hk' => hn (hs k hk' hk))⟩
theorem FarT.below (h : FarT top S w w') (hs : ∀ k ∈ S, B ≤ k) (hB : B ≤ top) : Below B w w' :=
  ⟨h.os, h.tape, h.output, h.size, fun k hk => h.block k (by omega) (fun hk' => by have := hs k hk'; omega)⟩
theorem Blk.farT (h : Blk w g t xs) (hf : FarT top S w w') (hg : g < top) (hS : g ∉ S) : Blk w' g t xs := (hf.block g hg hS).trans h
end
/-- The buffer at block b with the bytes U unread; its row lies from top on. -/
def BufS (b top G : Nat) (U : List UInt8) (w : World) : Prop :=
  (U = [] ∧ ∃ lr, Blk w b 153 (bufCells (.slice none 0 0) 0 lr)) ∨
  (1 ≤ U.length ∧ ∃ g off l cap lr cur, BufAt b g off l cap lr cur U w ∧ l ≤ G ∧ top ≤ g)
theorem buf_put {b g off M cap : Nat} {lr : Int} {cur : Array Value} {U P : List UInt8} {W : World} (hk : Blk W b 153 (bufCells (.slice (some ⟨g, 0, none⟩) (M + 512) cap) off lr)) (hrow : W.heap[g]? = some (.cells cur 5 (0, 0))) (hs : cur.size = cap) (hM : off + U.length = M) (hle : M + 512 ≤ cap) (hbig : cap ≤ maxLen) (hat : (cur.toList.take M).drop off = bys U) (hne : g ≠ b) (hP : P.length = 512) :
    BufAt b g off (M + 512) cap lr (cur.toList.take M ++ bys P ++ cur.toList.drop (M + 512)).toArray (U ++ P) (W.setRow g (cur.toList.take M ++ bys P ++ cur.toList.drop (M + 512)).toArray) := by
  have hl : (cur.toList.take M).length = M := by rw [List.length_take, Array.length_toList]; omega
  refine ⟨(setRow_other W g b _ (fun e => hne e.symm)).trans hk, setRow_heap _ g cur _ _ _ hrow, ?_, ?_, hle, hbig, ?_, hne⟩
  · simp only [List.size_toArray, List.length_append, hl, length_bys, hP, List.length_drop, Array.length_toList]
    omega
  · rw [List.length_append, hP]; omega
  · have e1 : (cur.toList.take M ++ bys P).length = M + 512 := by rw [List.length_append, hl, length_bys, hP]
    show ((cur.toList.take M ++ bys P ++ cur.toList.drop (M + 512)).take (M + 512)).drop off = _
    rw [← e1, List.take_left, List.drop_append_of_le_length (by omega), hat, bys_append]
set_option maxRecDepth 20000 in
set_option maxHeartbeats 1600000 in
theorem writeRoom (b g off l cap gp : Nat) (T : TypeId) (lr : Int) (cur : Array Value) (U P : List UInt8) (w : World) (h : BufAt b g off l cap lr cur U w) (hroom : 512 ≤ cap - l) (hl : l ≤ 10000000) (hs : Blk w gp T (bys P)) (hP : P.length = 512) (h1 : gp ≠ b) (h2 : gp ≠ g) :
    Calls Tryd.prog 87 #[.pointer (some ⟨b, 0, none⟩), .slice (some ⟨gp, 0, none⟩) 512 512] w fun e w' => e = .returned (.tuple #[.int .i64 512, .nilIface]) ∧ (∃ cur', BufAt b g off (l + 512) cap 0 cur' (U ++ P) w') ∧ Far [b, g] w w' := by
  have f2 := h.blk.frozen 2
  have c2 : w.cell? ⟨b, 2, none⟩ = some (.int .i8 lr) := by rw [h.blk.cell]; rfl
  have hle := h.le
  have HB2 : Hid (Blk (w.setCell ⟨b, 2, none⟩ (.int .i8 0)) b 153 (bufCells (.slice (some ⟨g, 0, none⟩) l cap) off 0)) := Lib.hid (h.blk.set_ 2 _)
  have HRW : Hid ((w.setCell ⟨b, 2, none⟩ (.int .i8 0)).heap[g]? = some (.cells cur 5 (0, 0))) := Lib.hid ((Below.heap_setCell _ _ _ g h.ne).trans h.row)
  have HSR : Hid (Blk (w.setCell ⟨b, 2, none⟩ (.int .i8 0)) gp T (bys P)) := Lib.hid (hs.far h1 _)
  have HF2 : Hid (Far [b, g] w (w.setCell ⟨b, 2, none⟩ (.int .i8 0))) := Lib.hid ((Far.refl _ _).setCell (p := ⟨b, 2, none⟩) (.inl (by simp)) _)
  have HH := Lib.hid h
  have HP := Lib.hid hP
  have HBG := Lib.hid h.big
  clear h hs hP
  go_enter Tryd.func87, Tryd.ntmps87
  go_wp2_with fail
  generalize w.setCell ⟨b, 2, none⟩ (.int .i8 0) = W1 at HB2 HRW HSR HF2 ⊢
  have hc0 : W1.cell? ⟨b, 0, none⟩ = some (.slice (some ⟨g, 0, none⟩) l cap) := by rw [HB2.out.cell]; rfl
  refine (Tryd.Buffer_tryGrow_room b (some ⟨g, 0, none⟩) l cap 512 W1 hc0 (HB2.out.frozen 0) hle HBG.out hroom).mono ?_
  rintro e W2 ⟨rfl, hW2⟩
  have hk2 : Blk W2 b 153 (bufCells (.slice (some ⟨g, 0, none⟩) (l + 512) cap) off 0) := by rw [hW2]; exact HB2.out.set_ 0 _
  have hr2 : W2.heap[g]? = some (.cells cur 5 (0, 0)) := by rw [hW2]; exact (Below.heap_setCell _ _ _ g HH.out.ne).trans HRW.out
  have hs2 : Blk W2 gp T (bys P) := by rw [hW2]; exact HSR.out.far h1 _
  have HF3 : Hid (Far [b, g] w W2) := Lib.hid (by rw [hW2]; exact HF2.out.setCell (p := ⟨b, 0, none⟩) (.inl (by simp)) _)
  have d0 : W2.cell? ⟨b, 0, none⟩ = some (.slice (some ⟨g, 0, none⟩) (l + 512) cap) := by rw [hk2.cell]; rfl
  have hcopy := run_copy_row (P := Tryd.prog) W2 62 62 3 5 g l 512 (cap - l) ⟨gp, 0, none⟩ 512 512 cur 5 (bys P) Tryd.underlying62 u8size hr2 (by rw [length_bys, HP.out]; rfl) (fun j v hj => by rw [Addr.add_lit, Nat.zero_add, hs2.cell]; exact hj) (by rw [length_bys, HP.out, HH.out.size]; omega) (bys_one P)
  rw [length_bys, HP.out] at hcopy
  have HEND := Lib.hid (buf_put hk2 hr2 HH.out.size HH.out.len (by omega) HBG.out HH.out.at_ HH.out.ne HP.out)
  have HF4 : Hid (∀ Y, Far [b, g] w (W2.setRow g Y)) := Lib.hid (fun Y => HF3.out.trans ⟨rfl, rfl, rfl, by simp, fun k hk hns => setRow_other W2 g k Y (fun e => hns (by rw [e]; simp))⟩)
  generalize (cur.toList.take l ++ bys P ++ cur.toList.drop (l + 512)).toArray = Y at hcopy HEND
  have v1 : (0 : Int) ≤ (l : Int) := by omega
  have v2 : (l : Int) ≤ (l : Int) + 512 := by omega
  have v3 : (l : Int) ≤ (cap : Int) := by omega
  have v4 : ¬ cap = l := by omega
  clear hW2 hk2 hr2 hs2 HF3
  go_wp2
  go_ret2
  exact ⟨rfl, ⟨Y, HEND.out⟩, HF4.out Y⟩
set_option maxRecDepth 20000 in
set_option maxHeartbeats 1600000 in
theorem writeGrow (b g off l cap gp : Nat) (T : TypeId) (lr : Int) (cur : Array Value) (U P : List UInt8) (w : World) (h : BufAt b g off l cap lr cur U w) (hroom : cap - l < 512) (hl : l ≤ 10000000) (hU : 1 ≤ U.length) (hs : Blk w gp T (bys P)) (hP : P.length = 512) (h1 : gp ≠ b) (h2 : gp ≠ g) :
    Calls Tryd.prog 87 #[.pointer (some ⟨b, 0, none⟩), .slice (some ⟨gp, 0, none⟩) 512 512] w fun e w' => e = .returned (.tuple #[.int .i64 512, .nilIface]) ∧ (∃ g' cap' lr' cur', BufAt b g' 0 (U.length + 512) cap' lr' cur' (U ++ P) w' ∧ (g' = g ∨ w.heap.size ≤ g')) ∧ Far [b, g] w w' := by
  have f2 := h.blk.frozen 2
  have c2 : w.cell? ⟨b, 2, none⟩ = some (.int .i8 lr) := by rw [h.blk.cell]; rfl
  have hle := h.le
  obtain ⟨m, hm⟩ : ∃ m, U.length = m := ⟨_, rfl⟩
  have HM := Lib.hid hm
  have hml : m ≤ l := by have := h.len; omega
  have HB2 : Hid (BufAt b g off l cap 0 cur U (w.setCell ⟨b, 2, none⟩ (.int .i8 0))) := Lib.hid ⟨h.blk.set_ 2 _, (Below.heap_setCell _ _ _ g h.ne).trans h.row, h.size, h.len, h.le, h.big, h.at_, h.ne⟩
  have HSR : Hid (Blk (w.setCell ⟨b, 2, none⟩ (.int .i8 0)) gp T (bys P)) := Lib.hid (hs.far h1 _)
  have HF2 : Hid (Far [b, g] w (w.setCell ⟨b, 2, none⟩ (.int .i8 0))) := Lib.hid ((Far.refl _ _).setCell (p := ⟨b, 2, none⟩) (.inl (by simp)) _)
  have HP := Lib.hid hP
  have HNG : Hid (gp < w.heap.size) := Lib.hid hs.lt
  have HSZ : Hid ((w.setCell ⟨b, 2, none⟩ (.int .i8 0)).heap.size = w.heap.size) := Lib.hid (by simp [World.setCell])
  have HBG := Lib.hid h.big
  rw [hm]
  clear h hs hP hm
  go_enter Tryd.func87, Tryd.ntmps87
  go_wp2_with fail
  generalize w.setCell ⟨b, 2, none⟩ (.int .i8 0) = W1 at HB2 HSR HF2 HSZ ⊢
  have hc0 : W1.cell? ⟨b, 0, none⟩ = some (.slice (some ⟨g, 0, none⟩) l cap) := by rw [HB2.out.blk.cell]; rfl
  refine (Tryd.Buffer_tryGrow_none b (some ⟨g, 0, none⟩) l cap 512 W1 hc0 hle HBG.out hroom).mono ?_
  rintro e W1 ⟨rfl, rfl⟩
  clear hc0
  go_wp2_with fail
  have HGR : Hid (Calls Tryd.prog 102 #[.pointer (some ⟨b, 0, none⟩), .int .i64 512] W1 (GrowB b g U W1)) := Lib.hid (by
    by_cases hsl : 512 + m ≤ cap / 2
    · exact bufGrowSlide b g off l cap m 0 cur U W1 HB2.out HM.out (by have := HM.out; omega) hroom hl hsl
    · exact bufGrowNew b g off l cap m 0 cur U W1 HB2.out HM.out (by have := HM.out; omega) hroom hl (by omega))
  refine HGR.out.mono ?_
  rintro e W2 ⟨rfl, g2, cap2, lr2, cur2, hk2, hr2, hs2, ht2, hle2, hbig2, hne2, hg2, hf2⟩
  rw [HM.out] at hk2 ht2 hle2 ⊢
  have hgp2 : gp ≠ g2 := by have := HNG.out; have := HSZ.out; omega
  have hsr2 : Blk W2 gp T (bys P) := HSR.out.of_far hf2 (by simp; omega)
  have HF3 : Hid (Far [b, g] w W2) := Lib.hid (HF2.out.trans hf2)
  have d0 : W2.cell? ⟨b, 0, none⟩ = some (.slice (some ⟨g2, 0, none⟩) (m + 512) cap2) := by rw [hk2.cell]; rfl
  have hcopy := run_copy_row (P := Tryd.prog) W2 62 62 3 5 g2 m 512 (cap2 - m) ⟨gp, 0, none⟩ 512 512 cur2 5 (bys P) Tryd.underlying62 u8size hr2 (by rw [length_bys, HP.out]; rfl) (fun j v hj => by rw [Addr.add_lit, Nat.zero_add, hsr2.cell]; exact hj) (by rw [length_bys, HP.out, hs2]; omega) (bys_one P)
  rw [length_bys, HP.out] at hcopy
  have HEND := Lib.hid (buf_put (off := 0) (U := U) hk2 hr2 hs2 (by rw [HM.out]; omega) hle2 hbig2 (by rw [List.drop_zero]; exact ht2) hne2 HP.out)
  have HG2 : Hid (g2 = g ∨ w.heap.size ≤ g2) := Lib.hid (by have := HSZ.out; omega)
  have HF4 : Hid (∀ Y, Far [b, g] w (W2.setRow g2 Y)) := Lib.hid (fun Y => ⟨HF3.out.os, HF3.out.tape, HF3.out.output, by simpa using HF3.out.size, fun k hk hns => (setRow_other W2 g2 k Y (fun e => by
    rcases HG2.out with h | h
    · exact hns (by rw [e, h]; simp)
    · omega)).trans (HF3.out.block k hk hns)⟩)
  generalize (cur2.toList.take m ++ bys P ++ cur2.toList.drop (m + 512)).toArray = Y at hcopy HEND
  have v1 : (0 : Int) ≤ (m : Int) := by omega
  have v2 : (m : Int) ≤ (m : Int) + 512 := by omega
  have v3 : (m : Int) ≤ (cap2 : Int) := by omega
  have v4 : ¬ cap2 = m := by omega
  clear hk2 hr2 hs2 hsr2 HF3 ht2 hf2 HGR
  go_wp2
  go_ret2
  exact ⟨rfl, ⟨g2, cap2, lr2, Y, HEND.out, HG2.out⟩, HF4.out Y⟩
end Go.Proofs.YtlchagphjmfooaaDoor
