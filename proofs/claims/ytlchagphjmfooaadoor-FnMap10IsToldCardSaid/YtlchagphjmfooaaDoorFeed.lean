/- feedTokens of readGNUSparseMap1x0. -/
import Derived.Test.YtlchagphjmfooaaDoorBufN
namespace Go.Proofs.YtlchagphjmfooaaDoor
open Go Go.RowKit Go.PlainAid
set_option linter.unusedVariables false

/-- How many newlines. -/
def nl (L : List UInt8) : Nat := L.count 10
theorem nl_nil : nl [] = 0 := rfl
theorem nl_append (a b : List UInt8) : nl (a ++ b) = nl a + nl b := by unfold nl; exact List.count_append
theorem nl_step (P : List UInt8) (i : Nat) (h : i < P.length) : nl (P.take (i + 1)) = nl (P.take i) + (if byt P i = 10 then 1 else 0) := by
  rw [List.take_add_one, nl_append]
  have e : P[i]? = some P[i] := List.getElem?_eq_getElem h
  have e2 : byt P i = ((P[i]).toNat : Int) := by unfold byt; rw [List.getD_eq_getElem?_getD, e]; rfl
  rw [e, e2]
  by_cases hc : P[i] = 10
  · rw [hc]; rfl
  · have h3 : ¬ ((P[i]).toNat : Int) = 10 := fun h => hc (UInt8.toNat_inj.1 (by have : (10 : UInt8).toNat = 10 := rfl; omega))
    rw [if_neg h3]
    unfold nl
    have h4 : List.count 10 [P[i]] = 0 := by rw [List.count_singleton]; simp [hc]
    show _ + List.count 10 [P[i]] = _
    rw [h4]
theorem nl_le (L : List UInt8) : nl L ≤ L.length := List.count_le_length
theorem take_block (D : List UInt8) (j : Nat) : D.take (512 * (j + 1)) = D.take (512 * j) ++ (D.drop (512 * j)).take 512 := by
  rw [show 512 * (j + 1) = 512 * j + 512 by omega, List.take_add]
theorem BufS.far {b top G : Nat} {U : List UInt8} {S : List Nat} {w w' : World} (h : BufS b top G U w) (hf : Far S w w') (hS : ∀ k ∈ S, k < top ∧ k ≠ b) : BufS b top G U w' := by
  have hb : b ∉ S := fun hk => (hS b hk).2 rfl
  rcases h with ⟨e, lr, h1⟩ | ⟨hU, g, off, l, cap, lr, cur, h1, h2, h3⟩
  · exact .inl ⟨e, lr, h1.of_far hf hb⟩
  · refine .inr ⟨hU, g, off, l, cap, lr, cur, ⟨h1.blk.of_far hf hb, ?_, h1.size, h1.len, h1.le, h1.big, h1.at_, h1.ne⟩, h2, h3⟩
    rw [hf.block g (Lib.lt_of_heap h1.row) (fun hk => by have := (hS g hk).1; omega)]
    exact h1.row
theorem BufS.more {b top G G' : Nat} {U : List UInt8} {w : World} (h : BufS b top G U w) (hG : G ≤ G') : BufS b top G' U w := by
  rcases h with h | ⟨hU, g, off, l, cap, lr, cur, h1, h2, h3⟩
  · exact .inl h
  · exact .inr ⟨hU, g, off, l, cap, lr, cur, h1, by omega, h3⟩
/-- What the variables of readGNUSparseMap1x0 hold, j blocks of D being read. -/
structure FeedS (Br rb k t G : Nat) (D U : List UInt8) (j : Nat) (w0 w : World) : Prop where
  br : BrAt Br (D.drop (512 * j)) w
  box : Blk w rb 149 [.iface 126 (.pointer (some ⟨Br, 0, none⟩))]
  cnt : Blk w (rb + 1) 2 [.int .i64 ((k + nl (D.take (512 * j)) : Nat) : Int)]
  buf : BufS (rb + 2) (rb + 5) (G + 512 * j) (U ++ D.take (512 * j)) w
  blk : ∃ cur : List UInt8, cur.length = 512 ∧ Blk w (rb + 3) 155 (bys cur)
  tot : Blk w (rb + 4) 3 [.int .i64 ((t + 512 * j : Nat) : Int)]
  far : FarT (rb + 5) [Br, rb + 1, rb + 2, rb + 3, rb + 4] w0 w
  top : rb + 5 ≤ w.heap.size
theorem run_index_blk (C : Array Value) (i : Nat) (v : Value) (hi : i < 512) (hv : C[i]? = some v) (w : World) : (Instr.index 155 (.agg C) (.int .i64 (i : Int))).run Tryd.prog w = .ok v w := by
  have h3 := Tryd.sizeOf5
  have h4 := Tryd.isAgg5
  simp [Instr.index, run_underlying Tryd.underlying155, asIntOf, hi, part, h3, h4, hv, go_sem]
def cellI (w : World) (p : Addr) : Int := match w.cell? p with
  | some v => intOf v
  | none => 0
def FeedP (b : Addr) (Br rb k t G n J : Nat) (D U : List UInt8) (w : World) (e : Ending) (w' : World) : Prop :=
  (∃ j, j ≤ J ∧ 512 * j ≤ D.length ∧ n ≤ k + nl (D.take (512 * j)) ∧ (∀ i < j, k + nl (D.take (512 * i)) < n) ∧ e = .returned .nilIface ∧ FeedS Br rb k t G D U j w w') ∨
  (∃ j, 512 * j ≤ D.length ∧ D.length < 512 * (j + 1) ∧ k + nl (D.take (512 * j)) < n ∧ e = .returned (errV b) ∧ FarT (rb + 5) [Br, rb + 1, rb + 2, rb + 3, rb + 4] w w')
/-- Behind a block read and written into the buffer, its newlines to be counted. -/
structure FeedM (Br rb k t G : Nat) (D U P : List UInt8) (j q : Nat) (w0 w : World) : Prop where
  br : BrAt Br (D.drop (512 * (j + 1))) w
  box : Blk w rb 149 [.iface 126 (.pointer (some ⟨Br, 0, none⟩))]
  cnt : Blk w (rb + 1) 2 [.int .i64 (q : Int)]
  buf : BufS (rb + 2) (rb + 5) (G + 512 * (j + 1)) (U ++ D.take (512 * (j + 1))) w
  blk : Blk w (rb + 3) 155 (bys P)
  tot : Blk w (rb + 4) 3 [.int .i64 ((t + 512 * (j + 1) : Nat) : Int)]
  far : FarT (rb + 5) [Br, rb + 1, rb + 2, rb + 3, rb + 4] w0 w
  top : rb + 5 ≤ w.heap.size
theorem FeedM.end_ {Br rb k t G j q i : Nat} {D U P : List UInt8} {w0 w w' : World} (h : FeedM Br rb k t G D U P j q w0 w) (hBr : Br < rb) (hP : (D.drop (512 * j)).take 512 = P) (hP5 : P.length = 512) (hq : q = k + nl (D.take (512 * j))) (hf : Far [rb + 1] w w') (hc : Blk w' (rb + 1) 2 [.int .i64 ((q + nl (P.take 512) : Nat) : Int)]) :
    FeedS Br rb k t G D U (j + 1) w0 w' := by
  have hd : Below (Br + 1) w w' := hf.below (fun k hk => by simp at hk; omega) (by have := h.top; omega)
  refine ⟨h.br.below hd (Nat.lt_succ_self _), h.box.of_far hf (by simp), ?_, h.buf.far hf (fun k hk => by simp at hk; omega), ⟨P, hP5, h.blk.of_far hf (by simp)⟩, h.tot.of_far hf (by simp), h.far.trans (FarT.of_far hf h.top (fun k hk _ => by simp at hk ⊢; omega)), Nat.le_trans h.top hf.size⟩
  rw [take_block, nl_append, hP, ← Nat.add_assoc, ← hq]
  rw [List.take_of_length_le (by omega)] at hc
  exact hc

set_option maxRecDepth 20000 in
set_option maxHeartbeats 6400000 in
theorem feed {a b : Addr} (Br rb k t G n J : Nat) (D U : List UInt8) (w : World) (h : FeedS Br rb k t G D U 0 w w) (hBr : Br < rb) (hE : Err Br w 2 a) (hE2 : Err Br w 3 b)
    (hJ : t + 512 * (J + 1) ≤ 1048576) (hJ2 : D.length < 512 * (J + 1) ∨ n ≤ k + nl (D.take (512 * J))) (hG : G ≤ 1000000) (hk : k ≤ 1000000) (hn : n ≤ 1000000) :
    Calls Tryd.prog 85 #[.int .i64 n, .pointer (some ⟨rb + 1, 0, none⟩), .pointer (some ⟨rb + 4, 0, none⟩), .pointer (some ⟨rb, 0, none⟩), .pointer (some ⟨rb + 3, 0, none⟩), .pointer (some ⟨rb + 2, 0, none⟩)] w (FeedP b Br rb k t G n J D U w) := by
  have H0 := Lib.hid h
  have HE := Lib.hid hE
  have HE2 := Lib.hid hE2
  have HJ2 := Lib.hid hJ2
  have hneq := fun w => run_eql_nil_nil_at (P := Tryd.prog) (w := w) 105 isErr
  have hneq2 := fun w x => run_eql_iface_nil (P := Tryd.prog) (w := w) 105 isErr 226 x
  have HI5 : Hid ((Tryd.prog.info? 155).map (·.size) = some 512) := Lib.hid (by kernel_rfl)
  clear h hE hE2 hJ2
  go_enter Tryd.func85, Tryd.ntmps85
  go_wp2_with fail
  go_loopw [] (fun wr => ∃ j : Nat, j ≤ J ∧ Hid (512 * j ≤ D.length) ∧ Hid (∀ i < j, k + nl (D.take (512 * i)) < n) ∧ Hid (FeedS Br rb k t G D U j w wr)) (fun wr => 2000000 - (cellI wr ⟨rb + 4, 0, none⟩).toNat)
  case atStart => exact ⟨0, by omega, Lib.hid (by omega), Lib.hid (fun i hi => by omega), H0⟩
  case round =>
    obtain ⟨j, hjJ, HJD, HMIN, HS⟩ := hrel
    obtain ⟨q, hq⟩ : ∃ q, q = k + nl (D.take (512 * j)) := ⟨_, rfl⟩
    obtain ⟨tt, htt⟩ : ∃ tt, tt = t + 512 * j := ⟨_, rfl⟩
    have hq6 : q ≤ 3000000 := by
      have h1 := nl_le (D.take (512 * j))
      have h2 : (D.take (512 * j)).length ≤ 512 * j := by rw [List.length_take]; omega
      omega
    have htt6 : tt + 512 ≤ 1048576 := by omega
    have c1 : wr.cell? ⟨rb + 1, 0, none⟩ = some (.int .i64 q) := by rw [HS.out.cnt.cell, hq]; rfl
    have c4 : wr.cell? ⟨rb + 4, 0, none⟩ = some (.int .i64 tt) := by rw [HS.out.tot.cell, htt]; rfl
    have f1 := HS.out.cnt.frozen 0
    have f4 := HS.out.tot.frozen 0
    have HQ := Lib.hid hq
    have HTT := Lib.hid htt
    have HM0 : Hid (cellI wr ⟨rb + 4, 0, none⟩ = (tt : Int)) := Lib.hid (by unfold cellI; rw [c4]; rfl)
    clear hq htt
    by_cases hlt : q < n
    · obtain ⟨T2, hT2⟩ : ∃ T2, T2 = tt + 512 := ⟨_, rfl⟩
      have u1 : IntKind.i64.wrap ((tt : Int) + 512) = (T2 : Int) := by rw [IntWalk.i64_in _ (by omega)]; omega
      have u2 : ¬ (1048576 : Int) < (T2 : Int) := by omega
      have HT2 := Lib.hid hT2
      have ht5 : rb + 5 ≤ wr.heap.size := HS.out.top
      have HFD : Hid (Far [rb + 4] wr (wr.setCell ⟨rb + 4, 0, none⟩ (.int .i64 T2))) := Lib.hid ((Far.refl _ _).setCell (p := ⟨rb + 4, 0, none⟩) (.inl (by simp)) _)
      have HTO : Hid (Blk (wr.setCell ⟨rb + 4, 0, none⟩ (.int .i64 T2)) (rb + 4) 3 [.int .i64 (T2 : Int)]) := Lib.hid (HS.out.tot.set_ 0 _)
      obtain ⟨cur, hcl, hcb⟩ := HS.out.blk
      have HCL := Lib.hid hcl
      have HCB := Lib.hid hcb
      clear hT2 hcl hcb
      go_wp2_with fail
      generalize wr.setCell ⟨rb + 4, 0, none⟩ (.int .i64 T2) = W1 at HFD HTO ⊢
      have hbel : Below rb wr W1 := HFD.out.below (fun k hk => by simp at hk; omega) (by omega)
      have hbr1 : BrAt Br (D.drop (512 * j)) W1 := HS.out.br.below hbel hBr
      have hbx1 : Blk W1 rb 149 [.iface 126 (.pointer (some ⟨Br, 0, none⟩))] := HS.out.box.of_far HFD.out (by simp)
      have hcn1 : Blk W1 (rb + 1) 2 [.int .i64 (q : Int)] := by rw [HQ.out]; exact HS.out.cnt.of_far HFD.out (by simp)
      have hbf1 := HS.out.buf.far HFD.out (fun k hk => by simp at hk; omega)
      have hbk1 : Blk W1 (rb + 3) 155 (bys cur) := HCB.out.of_far HFD.out (by simp)
      have hb0 : Below Br w wr := HS.out.far.below (fun k hk => by simp at hk; omega) (by omega)
      have he1 : Err Br W1 2 a := (HE.out.below hb0 (Nat.le_refl _)).below hbel (by omega)
      have he2 : Err Br W1 3 b := (HE2.out.below hb0 (Nat.le_refl _)).below hbel (by omega)
      have ht1 : rb + 5 ≤ W1.heap.size := Nat.le_trans ht5 HFD.out.size
      have HR := Lib.hid (mustRead 155 Br (rb + 3) cur (D.drop (512 * j)) W1.drew hbr1.drew (hbk1.drewN 1) HCL.out (by omega) (he1.below ((Below.refl Br W1).drew) (Nat.le_refl _)) (he2.below ((Below.refl Br W1).drew) (Nat.le_refl _)))
      have HFW : Hid (FarT (rb + 5) [Br, rb + 1, rb + 2, rb + 3, rb + 4] w W1) := Lib.hid (HS.out.far.trans (FarT.of_far HFD.out ht5 (fun k hk _ => by simp at hk ⊢; omega)))
      have HBX := Lib.hid hbx1
      have HCN := Lib.hid hcn1
      have HBF := Lib.hid hbf1
      have x0 : W1.cell? ⟨rb, 0, none⟩ = some (.iface 126 (.pointer (some ⟨Br, 0, none⟩))) := by rw [hbx1.cell]; rfl
      have x0d : W1.drew.cell? ⟨rb, 0, none⟩ = some (.iface 126 (.pointer (some ⟨Br, 0, none⟩))) := x0
      have HDL : Hid ((D.drop (512 * j)).length = D.length - 512 * j) := Lib.hid (by rw [List.length_drop])
      clear hbel hbr1 hbx1 hcn1 hbf1 hbk1 hb0 he1 he2 c1 c4 f1 f4
      by_cases hfull : 512 * (j + 1) ≤ D.length
      · obtain ⟨P, hP⟩ : ∃ P, (D.drop (512 * j)).take 512 = P := ⟨_, rfl⟩
        have hP5 : P.length = 512 := by rw [← hP, List.length_take, HDL.out]; omega
        have HP := Lib.hid hP
        have HP5 := Lib.hid hP5
        have HR2 : Hid (Calls Tryd.prog 86 #[.iface 126 (.pointer (some ⟨Br, 0, none⟩)), .slice (some ⟨rb + 3, 0, none⟩) 512 512] W1.drew fun e w' => e = .returned (.tuple #[.int .i64 512, .nilIface]) ∧ BrAt Br (D.drop (512 * (j + 1))) w' ∧ Blk w' (rb + 3) 155 (bys P) ∧ Far [Br, rb + 3] W1.drew w') := Lib.hid (HR.out.mono (by
          rintro e w' (⟨_, h1, h2, h3, h4⟩ | ⟨h1, _⟩)
          · refine ⟨h1, ?_, by rw [HP.out] at h3; exact h3, h4⟩
            rw [List.drop_drop] at h2
            rw [show 512 * (j + 1) = 512 * j + 512 by omega]
            exact h2
          · have := HDL.out; omega))
        clear hP hP5 HR
        go_region_with (go_at_call 86; refine HR2.out.mono ?_; rintro e W2 ⟨rfl, hbr2, hbk2, hf2⟩)
        have hf2' : Far [Br, rb + 3] W1 W2 := (Far.refl _ W1).drew.trans hf2
        have ht2 : rb + 5 ≤ W2.heap.size := Nat.le_trans ht1 hf2'.size
        have HBR2 := Lib.hid hbr2
        have HBK2 := Lib.hid hbk2
        have hbf2 := HBF.out.far hf2' (fun k hk => by simp at hk; omega)
        have HWR := Lib.hid (bufWrite (rb + 2) (rb + 5) (G + 512 * j) (rb + 3) 155 _ P W2 hbf2 (by omega) hbk2 HP5.out (by omega) (by omega) ht2)
        have HF2 := Lib.hid hf2'
        have HF2W : Hid (FarT (rb + 5) [Br, rb + 1, rb + 2, rb + 3, rb + 4] w W2) := Lib.hid (HFW.out.trans (FarT.of_far hf2' ht1 (fun k hk _ => by simp at hk ⊢; omega)))
        clear hbr2 hbk2 hf2 hf2' hbf2 HR2
        go_wp2_with fail
        refine HWR.out.mono ?_
        rintro e W3 ⟨rfl, hbf3, hf3⟩
        have hd3 : Below (Br + 1) W2 W3 := hf3.below (fun k hk => by simp at hk; omega) (by omega)
        have hm3 : FeedM Br rb k t G D U P j q w W3 := ⟨HBR2.out.below hd3 (Nat.lt_succ_self _), (HBX.out.of_far HF2.out (by simp; omega)).farT hf3 (by omega) (by simp), (HCN.out.of_far HF2.out (by simp; omega)).farT hf3 (by omega) (by simp), by
            rw [take_block, HP.out, ← List.append_assoc]
            exact hbf3.more (by omega), HBK2.out.farT hf3 (by omega) (by simp), by
            have e1 : t + 512 * (j + 1) = T2 := by have := HTT.out; have := HT2.out; omega
            rw [e1]
            exact (HTO.out.of_far HF2.out (by simp; omega)).farT hf3 (by omega) (by simp), HF2W.out.trans ⟨hf3.os, hf3.tape, hf3.output, hf3.size, fun k hk hns => hf3.block k hk (fun h => hns (by simp at h ⊢; omega))⟩, Nat.le_trans ht2 hf3.size⟩
        have HM3 := Lib.hid hm3
        obtain ⟨C, hC⟩ : ∃ C, C = (bys P).toArray := ⟨_, rfl⟩
        have HBKC : Hid (W3.heap[rb + 3]? = some (.cells C 155 (0, 0))) := Lib.hid (by rw [hC]; exact hm3.blk)
        have HCS : Hid ((Tryd.prog.info? 155).map (·.size) = some C.size) := Lib.hid (by rw [HI5.out, hC, List.size_toArray, length_bys, HP5.out])
        have HCV : Hid (∀ i, i < 512 → C[i]? = some (.int .u8 (byt P i))) := Lib.hid (fun i hi => by rw [hC]; simpa using bys_get P i (by rw [HP5.out]; exact hi))
        have HCZ : Hid (C.size = 512) := Lib.hid (by rw [hC, List.size_toArray, length_bys, HP5.out])
        have HF3 : Hid (Far [rb + 1] W3 W3) := Lib.hid (Far.refl _ _)
        have HC3 : Hid (Blk W3 (rb + 1) 2 [.int .i64 ((q + nl (P.take 0) : Nat) : Int)]) := Lib.hid hm3.cnt
        clear hC hm3 hbf3 hf3 hd3 HWR
        go_wp2_with (refine wpList_load_row (o := ⟨some 31, _, _, _, _, _⟩) rfl 155 (.tmp 4) rfl (rb + 3) rfl 155 C (0, 0) _ HBKC.out Tryd.underlying155 rfl HCS.out ?_)

        go_loopw [32] (fun v wr => ∃ i : Nat, i ≤ 512 ∧ v = .int .i64 i ∧ Hid (Far [rb + 1] W3 wr) ∧ Hid (Blk wr (rb + 1) 2 [.int .i64 ((q + nl (P.take i) : Nat) : Int)])) (fun v _ => 512 - (intOf v).toNat)
        case atStart => exact ⟨0, by omega, rfl, HF3, HC3⟩
        case round =>
          obtain ⟨i, hi, rfl, HFI, HCI⟩ := hrel
          by_cases hi5 : i < 512
          · have hcv := HCV.out i hi5
            obtain ⟨cc, hcc⟩ : ∃ cc, cc = byt P i := ⟨_, rfl⟩
            rw [← hcc] at hcv
            have hix := run_index_blk C i _ hi5 hcv
            obtain ⟨s, hs⟩ : ∃ s, s = q + nl (P.take i) := ⟨_, rfl⟩
            have hs6 : s ≤ 4000000 := by
              have h1 := nl_le (P.take i)
              have h2 : (P.take i).length ≤ 512 := by rw [List.length_take]; omega
              omega
            have c1 : wr.cell? ⟨rb + 1, 0, none⟩ = some (.int .i64 s) := by rw [HCI.out.cell, hs]; rfl
            have f1 := HCI.out.frozen 0
            have HST : Hid (q + nl (P.take (i + 1)) = s + (if cc = 10 then 1 else 0)) := Lib.hid (by rw [nl_step P i (by rw [HP5.out]; exact hi5), ← Nat.add_assoc, ← hs, hcc])
            have HSS := Lib.hid hs
            have u3 : IntKind.i64.wrap ((s : Int) + 1) = ((s + 1 : Nat) : Int) := by rw [IntWalk.i64_in _ (by omega)]; omega
            clear hs hcc
            by_cases hc10 : cc = 10
            · subst hc10
              obtain ⟨s1, hs1⟩ : ∃ s1, s1 = s + 1 := ⟨_, rfl⟩
              rw [← hs1] at u3
              have HNX : Hid (Blk (wr.setCell ⟨rb + 1, 0, none⟩ (.int .i64 s1)) (rb + 1) 2 [.int .i64 ((q + nl (P.take (i + 1)) : Nat) : Int)]) := Lib.hid (by
                rw [HST.out, if_pos rfl, ← hs1]
                exact HCI.out.set_ 0 _)
              have HNF : Hid (Far [rb + 1] W3 (wr.setCell ⟨rb + 1, 0, none⟩ (.int .i64 s1))) := Lib.hid (HFI.out.setCell (p := ⟨rb + 1, 0, none⟩) (.inl (by simp)) _)
              clear hs1
              go_wp2
              go_roundw
              case rel => exact ⟨i + 1, by omega, by go_num, HNF, HNX⟩
              case measure => simp [intOf]; omega
            · have hc' : ((cc : Int) == 10) = false := by rw [beq_eq_false_iff_ne]; exact hc10
              have HNX : Hid (Blk wr (rb + 1) 2 [.int .i64 ((q + nl (P.take (i + 1)) : Nat) : Int)]) := Lib.hid (by
                rw [HST.out, if_neg hc10, Nat.add_zero, HSS.out]
                exact HCI.out)
              go_wp2
              go_roundw
              case rel => exact ⟨i + 1, by omega, by go_num, HFI, HNX⟩
              case measure => simp [intOf]; omega
          · obtain rfl : i = 512 := by omega
            have hnew : FeedS Br rb k t G D U (j + 1) w wr := HM3.out.end_ (i := 0) hBr HP.out HP5.out HQ.out HFI.out HCI.out
            have HNEW := Lib.hid hnew
            have HMN : Hid (∀ i < j + 1, k + nl (D.take (512 * i)) < n) := Lib.hid (fun i hi => by
              by_cases e : i = j
              · rw [e, ← HQ.out]; exact hlt
              · exact HMIN.out i (by omega))
            have hjJ1 : j + 1 ≤ J := by
              rcases HJ2.out with h | h
              · omega
              · by_cases e : j = J
                · rw [← e, ← HQ.out] at h; omega
                · omega
            have HM1 : Hid (cellI wr ⟨rb + 4, 0, none⟩ = ((tt + 512 : Nat) : Int)) := Lib.hid (by
              unfold cellI
              rw [hnew.tot.cell]
              show (((t + 512 * (j + 1) : Nat)) : Int) = _
              have := HTT.out
              omega)
            clear hnew
            go_wp2
            go_roundw
            case rel => exact ⟨j + 1, hjJ1, Lib.hid hfull, HMN, HNEW⟩
            case measure => rw [HM1.out, HM0.out]; omega
      · have HR2 : Hid (Calls Tryd.prog 86 #[.iface 126 (.pointer (some ⟨Br, 0, none⟩)), .slice (some ⟨rb + 3, 0, none⟩) 512 512] W1.drew fun e w' => ∃ i : Nat, e = .returned (.tuple #[.int .i64 i, errV b]) ∧ Far [Br, rb + 3] W1.drew w') := Lib.hid (HR.out.mono (by
          rintro e w' (⟨h0, _⟩ | ⟨_, i, h1, h2⟩)
          · have := HDL.out; have := HJD.out; omega
          · exact ⟨i, h1, h2⟩))
        clear HR
        unfold errV at HR2
        go_region_with (go_at_call 86; refine HR2.out.mono ?_; rintro e W2 ⟨i, rfl, hf2⟩)
        have HEND : Hid (FarT (rb + 5) [Br, rb + 1, rb + 2, rb + 3, rb + 4] w W2) := Lib.hid (HFW.out.trans (FarT.of_far ((Far.refl _ W1).drew.trans hf2) ht1 (fun k hk _ => by simp at hk ⊢; omega)))
        clear hf2 HR2
        go_wp2
        go_ret
        exact .inr ⟨j, HJD.out, by omega, by rw [← HQ.out]; exact hlt, rfl, HEND.out⟩
    · go_wp2
      go_ret
      exact .inl ⟨j, hjJ, HJD.out, by rw [← HQ.out]; omega, HMIN.out, rfl, HS.out⟩
end Go.Proofs.YtlchagphjmfooaaDoor
