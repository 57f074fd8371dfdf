/- readAll and readSpecialFile. -/
import Derived.Test.YtlchagphjmfooaaDoorRdA
import Derived.Test.YtlchagphjmfooaaDoorMap2
namespace Go.Proofs.YtlchagphjmfooaaDoor
open Go.RowKit Go.PlainAid
set_option linter.unusedVariables false

theorem zeros512 : Tryd.zeroCells154 = (bys (zbs 512)).toArray := by kernel_rfl
theorem splice_front (cur X : List UInt8) (m : Nat) (h : X.length = m) (hm : m ≤ cur.length) : (splice cur 0 X).take m = X ∧ (splice cur 0 X).length = cur.length := by
  unfold splice
  rw [List.take_zero, List.nil_append, Nat.zero_add]
  constructor
  · rw [← h, List.take_left]
  · rw [List.length_append, List.length_drop]; omega
theorem take_drop_app (D : List UInt8) (i m n : Nat) (h : ((D.drop i).take n).length = m) (hi : i ≤ D.length) : D.take i ++ (D.drop i).take n = D.take (i + m) := by
  have e : (D.drop i).take n = (D.drop i).take m := by
    rw [List.length_take] at h
    by_cases hn : n ≤ (D.drop i).length
    · rw [show m = n by omega]
    · rw [List.take_of_length_le (by omega), List.take_of_length_le (by omega)]
  rw [e, ← List.take_add]
theorem or_w {P : World → Prop} {w w0 : World} (h : w0 = w ∨ w0 = w.drew) (h1 : P w) (h2 : P w.drew) : P w0 := by
  rcases h with rfl | rfl
  · exact h1
  · exact h2
/-- readAll over a limited reader of bytes. -/
def AllP (D : List UInt8) (Lr Br : Nat) (w : World) (e : Ending) (w' : World) : Prop :=
  ∃ A c, e = .returned (.tuple #[.slice A D.length c, .nilIface]) ∧ RB w' w'.heap.size A D ∧ D.length ≤ c ∧ Far [Lr, Br] w w'
/-- What lies there behind a read. -/
theorem rd_after {a : Addr} {Lr Br g i m c : Nat} {A : Option Addr} {L : Int} {X D : List UInt8} {w wr w' : World} {xs : List Value} (hst : LRead 154 Lr Br g (L - i) m X (D.drop i) wr w') (hF : Far [Lr, Br] w wr) (hg : g = w.heap.size) (hLr : Lr < g) (h1 : Br < Lr) (hZ : g + 1 ≤ wr.heap.size)
    (hO : wr.ownsRow (g + 1) 5 1 (.slice A i c) i xs) (hE : Err Br wr 2 a) :
    LrAt Lr Br (L - ((i + m : Nat) : Int)) (D.drop (i + m)) w' ∧ Blk w' g 154 (bys X) ∧ Far [Lr, Br] w w' ∧ w'.ownsRow (g + 1) 5 1 (.slice A i c) i xs ∧ Err Br w' 2 a ∧ g + 1 ≤ w'.heap.size := by
  obtain ⟨s1, s2, s3⟩ := hst
  refine ⟨?_, s2, ?_, ?_, ?_, Nat.le_trans hZ s3.size⟩
  · rw [List.drop_drop] at s1
    rw [show L - ((i + m : Nat) : Int) = L - (i : Int) - (m : Int) by omega]
    exact s1
  · refine Far.mono (S := [Lr, Br, g]) ((Far.mono (T := [Lr, Br, g]) hF (fun k _ hk => by simp at hk ⊢; omega)).trans s3) (fun k hk hk2 => ?_)
    simp at hk2 ⊢
    omega
  · refine own_of_far hO s3 (fun k hk => ?_)
    have := (hO.lt k hk).1
    simp
    omega
  · exact hE.below (s3.below (B := Br) (fun k hk => by simp at hk; omega) (by omega)) (Nat.le_refl _)
theorem rd_grown {a : Addr} {Lr Br g i n c : Nat} {A : Option Addr} {L : Int} {X D : List UInt8} {w w' w5 : World} {xs : List Value} (hL : LrAt Lr Br L D w') (hG : Blk w' g 154 (bys X)) (hF : Far [Lr, Br] w w') (hO : w'.ownsRow (g + 1) 5 1 (.slice A i c) n xs) (hE : Err Br w' 2 a) (hZ : g + 1 ≤ w'.heap.size)
    (hg : g = w.heap.size) (hLr : Lr < g) (h1 : Br < Lr) (hgr : w'.grownBy w5 (Value.slice A i c).ownBlock) :
    LrAt Lr Br L D w5 ∧ Blk w5 g 154 (bys X) ∧ Far [Lr, Br] w w5 ∧ Err Br w5 2 a ∧ g + 1 ≤ w5.heap.size := by
  have hf : Far (Value.slice A i c).ownBlock.toList w' w5 := Far.of_grown hgr (fun k hk => by rw [hk]; simp)
  have hs : ∀ k ∈ (Value.slice A i c).ownBlock.toList, g + 1 ≤ k := fun k hk => (hO.lt k (by simpa using hk)).1
  refine ⟨hL.far hf h1 (fun k hk => by have := hs k hk; omega), hG.of_far hf (fun hk => by have := hs _ hk; omega), ?_, hE.below (hf.below (B := Br) (fun k hk => by have := hs k hk; omega) (by omega)) (Nat.le_refl _), Nat.le_trans hZ hf.size⟩
  refine Far.mono (S := [Lr, Br] ++ (Value.slice A i c).ownBlock.toList) ((Far.mono (T := [Lr, Br] ++ (Value.slice A i c).ownBlock.toList) hF (fun k _ hk => List.mem_append_left _ hk)).trans (Far.mono (T := [Lr, Br] ++ (Value.slice A i c).ownBlock.toList) hf (fun k _ hk => List.mem_append_right _ hk))) (fun k hk hk2 => ?_)
  rcases List.mem_append.1 hk2 with h | h
  · exact h
  · have := hs k h
    omega
set_option maxRecDepth 20000 in
set_option maxHeartbeats 3200000 in
theorem readAll_any {a : Addr} (Lr Br : Nat) (L : Int) (D : List UInt8) (w : World) (hl : LrAt Lr Br L D w) (h1 : Br < Lr) (hD : (D.length : Int) + 513 ≤ L) (hL : L ≤ 4611686018427387904) (hDl : D.length ≤ 2147483647) (hE : Err Br w 2 a) :
    Calls Tryd.prog 104 #[.iface 198 (.pointer (some ⟨Lr, 0, none⟩))] w (AllP D Lr Br w) := by
  have hlr := hl.blk.lt
  have HL0 : Hid (LrAt Lr Br L D (w.alloc (.cells Tryd.zeroCells154 154))) := Lib.hid (hl.far (S := []) ((Far.refl [] w).alloc _) h1 (fun k hk => by simp at hk))
  have HG0 : Hid (Blk (w.alloc (.cells Tryd.zeroCells154 154)) w.heap.size 154 (bys (zbs 512))) := Lib.hid (by rw [zeros512]; exact Blk.new w _ _)
  have HF0 : Hid (Far [Lr, Br] w (w.alloc (.cells Tryd.zeroCells154 154))) := Lib.hid ((Far.refl _ w).alloc _)
  have HE0 : Hid (Err Br (w.alloc (.cells Tryd.zeroCells154 154)) 2 a) := Lib.hid (hE.below ((Below.refl Br w).alloc (by omega) _) (Nat.le_refl _))
  have hn := fun f => nilLr f Lr
  have hme := methLr Lr
  have hz0 : (w.alloc (.cells Tryd.zeroCells154 154)).heap.size = w.heap.size + 1 := by simp
  have HZ0 : Hid (w.heap.size + 1 ≤ (w.alloc (.cells Tryd.zeroCells154 154)).heap.size) := Lib.hid (by omega)
  clear hl hz0 hE
  go_enter Tryd.func104, Tryd.ntmps104
  go_wp2
  obtain ⟨w1, hw1⟩ : ∃ w1, w1 = w.alloc (.cells Tryd.zeroCells154 154) := ⟨_, rfl⟩
  rw [← hw1] at HL0 HG0 HF0 HE0 HZ0 ⊢
  obtain ⟨g, hg⟩ : ∃ g, g = w.heap.size := ⟨_, rfl⟩
  have HGE := Lib.hid hg
  rw [← hg] at HG0 HZ0 hlr ⊢
  clear hw1 hg
  go_loopw [4] (fun v wr => ∃ (i c : Nat) (A : Option Addr) (cur : List UInt8), v = .slice A i c ∧ i ≤ D.length ∧ i ≤ c ∧ Hid (cur.length = 512) ∧ Hid (wr.ownsRow (g + 1) 5 1 (.slice A i c) i (bys (D.take i))) ∧ Hid (LrAt Lr Br (L - i) (D.drop i) wr) ∧ Hid (Blk wr g 154 (bys cur)) ∧ Hid (Far [Lr, Br] w wr) ∧ Hid (Err Br wr 2 a) ∧ Hid (g + 1 ≤ wr.heap.size)) (fun v _ => D.length - sliceLen v)
  case atStart => exact ⟨0, 0, none, zbs 512, rfl, by omega, by omega, Lib.hid (by simp [zbs]), Lib.hid (World.ownsRow_nil _ _ _ _), Lib.hid (by simpa using HL0.out), HG0, HF0, HE0, HZ0⟩
  case round =>
    obtain ⟨i, c, A, cur, rfl, hi, hic, hC, hO, hL2, hG, hF, hE, hZ⟩ := hrel
    by_cases hlt : i < D.length
    · obtain ⟨m, hm⟩ : ∃ m, ((D.drop i).take 512).length = m := ⟨_, rfl⟩
      have hm2 : m = min 512 (D.length - i) := by rw [← hm, List.length_take, List.length_drop]
      have hm0 : 0 < m := by omega
      have hm512 : m ≤ 512 := by omega
      have hmD : i + m ≤ D.length := by omega
      have HM := Lib.hid hm
      have HR : Hid (∀ w0, w0 = wr ∨ w0 = wr.drew → Calls Tryd.prog 187 #[.pointer (some ⟨Lr, 0, none⟩), .slice (some ⟨g, 0, none⟩) 512 512] w0 fun e w' => e = .returned (.tuple #[.int .i64 m, .nilIface]) ∧ LRead 154 Lr Br g (L - i) m (splice cur 0 ((D.drop i).take 512)) (D.drop i) wr w') := Lib.hid (fun w0 h0 =>
        limRead 154 Lr Br g 512 512 m (L - i) cur (D.drop i) wr w0 h0 (or_w (P := LrAt Lr Br (L - i) (D.drop i)) h0 hL2.out hL2.out.drew) (or_w (P := fun w => Blk w g 154 (bys cur)) h0 hG.out (hG.out.drewN 1)) h1 (by omega) HM.out hm0 (by rw [hC.out]; omega) (by omega) (by omega) (by omega) (by omega))
      have HSP := Lib.hid (splice_front cur ((D.drop i).take 512) m HM.out (by rw [hC.out]; omega))
      have HTK := Lib.hid (take_drop_app D i m 512 HM.out (by omega))
      have hm3 : (0 : Int) ≤ (m : Int) := by omega
      have hm4 : (m : Int) ≤ 512 := by omega
      clear hm hm2
      go_wp2_with fail
      go_region_with (go_at_call 187; refine (HR.out _ (by first | exact .inl rfl | exact .inr rfl)).mono ?_; rintro e w' ⟨rfl, hst⟩)
      have HA := Lib.hid (rd_after hst hF.out HGE.out hlr h1 hZ.out hO.out hE.out)
      have HRC : Hid (RC w' (g + 1) (some ⟨g, 0, none⟩) (bys ((D.drop i).take 512))) := Lib.hid (by
        have h := (RB.of_blk HA.out.2.1).take m
        rw [HSP.out.1] at h
        exact RC.of_RB h)
      have HLN : Hid ((bys ((D.drop i).take 512)).length = m * 1) := Lib.hid (by rw [length_bys, HM.out, Nat.mul_one])
      clear hst
      go_wp2_with (at_builtin; refine wpList_append_rc (o := ⟨some 20, _, _, _, _, _⟩) _ rfl (.tmp 17) (.tmp 19) _ rfl (g + 1) 5 _ 1 1 Tryd.underlying62 u8info rfl (by omega) _ i _ rfl HA.out.2.2.2.1 (some ⟨g, 0, none⟩) m 512 (g + 1) (bys ((D.drop i).take 512)) rfl HLN.out HRC.out (bys_one _) (by omega) (by omega) HA.out.2.2.2.2.2 ?_)
      intro v5 w5 h5 h6 h7
      obtain ⟨A5, c5, rfl, _, hc5, _⟩ := own_form h5.out
      have HO5 : Hid (w5.ownsRow (g + 1) 5 1 (.slice A5 (i + m) c5) (i + m) (bys (D.take (i + m)))) := Lib.hid (by rw [← HTK.out, bys_append]; exact h5.out)
      have HR5 := Lib.hid (rd_grown HA.out.1 HA.out.2.1 HA.out.2.2.1 HA.out.2.2.2.1 HA.out.2.2.2.2.1 HA.out.2.2.2.2.2 HGE.out hlr h1 h6.out)
      clear h5 h6 h7
      go_wp2
      go_roundw
      case rel => exact ⟨i + m, c5, A5, _, by go_num, hmD, hc5, Lib.hid (by rw [HSP.out.2, hC.out]), HO5, Lib.hid HR5.out.1, Lib.hid HR5.out.2.1, Lib.hid HR5.out.2.2.1, Lib.hid HR5.out.2.2.2.1, Lib.hid HR5.out.2.2.2.2⟩
      case measure => simp [sliceLen]; omega
    · obtain rfl : i = D.length := by omega
      have HD : Hid (D.drop D.length = []) := Lib.hid (List.drop_length)
      have HR : Hid (∀ w0, w0 = wr ∨ w0 = wr.drew → Calls Tryd.prog 187 #[.pointer (some ⟨Lr, 0, none⟩), .slice (some ⟨g, 0, none⟩) 512 512] w0 fun e w' => e = .returned (.tuple #[.int .i64 0, errV a]) ∧ LRead 154 Lr Br g (L - D.length) 0 cur [] wr w') := Lib.hid (fun w0 h0 =>
        limReadE 154 Lr Br g 512 512 (L - D.length) cur wr w0 h0 (or_w (P := LrAt Lr Br (L - D.length) []) h0 (by have h := hL2.out; rw [HD.out] at h; exact h) (by have h := hL2.out.drew; rw [HD.out] at h; exact h)) (or_w (P := fun w => Blk w g 154 (bys cur)) h0 hG.out (hG.out.drewN 1)) h1 (by omega) (by omega) (by omega) (by omega) (by omega) (by omega) (or_w (P := fun w => Err Br w 2 a) h0 hE.out (hE.out.below ((Below.refl Br wr).drew) (Nat.le_refl _))))
      unfold errV at HR
      go_wp2_with fail
      go_region_with (go_at_call 187; refine (HR.out _ (by first | exact .inl rfl | exact .inr rfl)).mono ?_; rintro e w' ⟨rfl, hst⟩)
      have HA := Lib.hid (rd_after (m := 0) (D := D) (by rw [HD.out]; exact hst) hF.out HGE.out hlr h1 hZ.out hO.out hE.out)
      clear hst
      go_wp2_with (at_builtin; refine wpList_append_rc (o := ⟨some 20, _, _, _, _, _⟩) _ rfl (.tmp 17) (.tmp 19) _ rfl (g + 1) 5 _ 1 1 Tryd.underlying62 u8info rfl (by omega) _ D.length _ rfl HA.out.2.2.2.1 (some ⟨g, 0, none⟩) 0 512 (g + 1) [] rfl rfl RC.nil_ (fun u hu => by simp at hu) (by omega) (by omega) HA.out.2.2.2.2.2 ?_)
      intro v5 w5 h5 h6 h7
      obtain ⟨A5, c5, rfl, _, hc5, _⟩ := own_form h5.out
      have HO5 : Hid (w5.ownsRow (g + 1) 5 1 (.slice A5 D.length c5) D.length (bys D)) := Lib.hid h5.out
      have HR5 := Lib.hid (rd_grown HA.out.1 HA.out.2.1 HA.out.2.2.1 HA.out.2.2.2.1 HA.out.2.2.2.2.1 HA.out.2.2.2.2.2 HGE.out hlr h1 h6.out)
      have k1 := HR5.out.2.2.2.1.cell
      have heq := err_eq w5 a
      unfold errV at k1 heq
      clear h5 h6 h7
      go_wp2
      go_ret2
      exact ⟨A5, c5, rfl, RB.of_RC (RC.of_own HO5.out), hc5, HR5.out.2.2.1⟩
set_option maxRecDepth 20000 in
set_option maxHeartbeats 400000 in
theorem limitReader (Br : Nat) (L : Int) (w : World) :
    Calls Tryd.prog 105 #[.iface 126 (.pointer (some ⟨Br, 0, none⟩)), .int .i64 L] w fun e w' => e = .returned (.iface 198 (.pointer (some ⟨w.heap.size, 0, none⟩))) ∧ w.alloc (.cells (lrCells Br L).toArray 200) = w' := by
  go_enter Tryd.func105, Tryd.ntmps105
  go_wp2
  go_ret
  exact ⟨rfl, rfl⟩
/-- What readSpecialFile leaves. -/
def FileP (D : List UInt8) (Br : Nat) (w : World) (e : Ending) (w' : World) : Prop :=
  ∃ A c, e = .returned (.tuple #[.slice A D.length c, .nilIface]) ∧ RB w' w'.heap.size A D ∧ D.length ≤ c ∧ Far [Br] w w'
set_option maxRecDepth 20000 in
set_option maxHeartbeats 1600000 in
theorem readFile {a : Addr} (Br : Nat) (D : List UInt8) (w : World) (hb : BrAt Br D w) (hD : D.length ≤ 1048000) (hE : Err Br w 2 a) :
    Calls Tryd.prog 90 #[.iface 126 (.pointer (some ⟨Br, 0, none⟩))] w (FileP D Br w) := by
  have hbl := hb.lt
  have HL : Hid (LrAt w.heap.size Br 1048577 D (w.alloc (.cells (lrCells Br 1048577).toArray 200))) := Lib.hid ⟨Blk.new w _ _, hb.far (S := []) ((Far.refl [] w).alloc _) (fun k hk => by simp at hk)⟩
  have HE : Hid (Err Br (w.alloc (.cells (lrCells Br 1048577).toArray 200)) 2 a) := Lib.hid (hE.below ((Below.refl Br w).alloc (by omega) _) (Nat.le_refl _))
  have HF : Hid (Far [w.heap.size, Br] w (w.alloc (.cells (lrCells Br 1048577).toArray 200))) := Lib.hid ((Far.refl _ w).alloc _)
  have hd1 : ¬ (1048576 : Int) < (D.length : Int) := by omega
  clear hb hE
  go_enter Tryd.func90, Tryd.ntmps90
  go_wp2_with fail
  refine (limitReader Br 1048577 _).mono ?_
  rintro e w1 ⟨rfl, hw1⟩
  rw [hw1] at HL HE HF
  clear hw1
  go_wp2_with fail
  refine (readAll_any w.heap.size Br 1048577 D w1 HL.out hbl (by omega) (by omega) (by omega) HE.out).mono ?_
  rintro e w2 ⟨A, c, rfl, hr, hc, hf⟩
  have HR := Lib.hid hr
  have HF2 : Hid (Far [Br] w w2) := Lib.hid (Far.mono (HF.out.trans hf) (fun k hk hk2 => by simp at hk2 ⊢; omega))
  clear hr hf
  go_wp2
  go_ret2
  exact ⟨A, c, rfl, HR.out, hc, HF2.out⟩
end Go.Proofs.YtlchagphjmfooaaDoor
