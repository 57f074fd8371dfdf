/- bytes.Buffer: ReadString; nextToken of readGNUSparseMap1x0. -/
import Derived.Test.YtlchagphjmfooaaDoorBuf2
import Derived.Test.YtlchagphjmfooaaDoorTrim
namespace Go.Proofs.YtlchagphjmfooaaDoor
open Go.RowKit Go.PlainAid
set_option linter.unusedVariables false

theorem BufAt.line {b g off l cap : Nat} {lr : Int} {cur : Array Value} {T E : List UInt8} {w : World} (h : BufAt b g off l cap lr cur (T ++ 10 :: E) w) : RB w (g + 1) (some ⟨g, off, none⟩) (T ++ [10]) := fun hp => by
  refine ⟨g, off, rfl, Nat.lt_succ_self _, fun i hi => ?_⟩
  rw [List.length_append, List.length_singleton] at hi
  rw [h.cells i (by rw [List.length_append, List.length_cons]; omega)]
  have e0 : (T ++ 10 :: E)[i]? = (T ++ [10])[i]? := by
    rw [show T ++ 10 :: E = (T ++ [10]) ++ E by simp, List.getElem?_append_left (by simp; omega)]
  have e1 : byt (T ++ 10 :: E) i = byt (T ++ [10]) i := by
    unfold byt
    rw [List.getD_eq_getElem?_getD, List.getD_eq_getElem?_getD, e0]
  rw [e1]
set_option maxRecDepth 20000 in
set_option maxHeartbeats 1600000 in
theorem readStr (b g off l cap : Nat) (lr : Int) (cur : Array Value) (T E : List UInt8) (w : World) (h : BufAt b g off l cap lr cur (T ++ 10 :: E) w) (hT : ∀ x ∈ T, x ≠ 10) (hl : l ≤ 100000000) :
    Calls Tryd.prog 89 #[.pointer (some ⟨b, 0, none⟩), .int .u8 10] w fun e w' => e = .returned (.tuple #[.string (mkS (T ++ [10])), .nilIface]) ∧ BufAt b g (off + T.length + 1) l cap (-1) cur E w' ∧ Far [b] w w' := by
  have HR := Lib.hid (readSl b g off l cap lr cur T E w h hT hl)
  have hg := Lib.lt_of_heap h.row
  have HL := Lib.hid h.line
  have HNE := Lib.hid h.ne
  clear h hT
  go_enter Tryd.func89, Tryd.ntmps89
  go_wp2_with fail
  refine HR.out.mono ?_
  rintro e w1 ⟨rfl, hb, hf⟩
  have HB := Lib.hid hb
  have HF := Lib.hid hf
  have HRB : Hid (RB w1 (g + 1) (some ⟨g, off, none⟩) (T ++ [10])) := Lib.hid (HL.out.of_far hf (by omega) (fun ad h => by injection h with h; subst h; simpa using HNE.out))
  have HLEN : Hid ((T ++ [10]).length = T.length + 1) := Lib.hid (by simp)
  clear hb hf HR
  go_wp2_with (refine wpList_conv_bytes (o := ⟨some 14, _, _, _, _, _⟩) _ rfl (.tmp 13) 62 9 5 rfl Tryd.underlying62 Tryd.underlying5 Tryd.underlying9 (some ⟨g, off, none⟩) (T.length + 1) (cap - off) _ (T ++ [10]) rfl HLEN.out HRB.out ?_)
  go_wp2
  go_ret2
  exact ⟨rfl, HB.out, HF.out⟩
theorem trim_line {T : List UInt8} {m : Nat} (hT : ∀ x ∈ T, x ≠ 10) (h : Trimmed 10 (mkS (T ++ [10])) m) : (mkS (T ++ [10])).extract 0 m = mkS T := by
  have hsz : (mkS (T ++ [10])).size = T.length + 1 := by rw [mkS_len]; simp
  have hbt : ∀ i, (hi : i < T.length) → bt (mkS (T ++ [10])) i = ((T[i]).toNat : Int) := fun i hi => by
    obtain ⟨c, h1, h2⟩ := bt_of (mkS (T ++ [10])) i (by omega)
    rw [mkS_list, List.getElem?_append_left hi, List.getElem?_eq_getElem hi] at h1
    rw [h2, ← Option.some.inj h1]
  obtain ⟨h1, h2, h3⟩ := h
  have hm : m = T.length := by
    rcases Nat.lt_trichotomy m T.length with h | h | h
    · exfalso
      have h4 := h2 m (Nat.le_refl _) (by omega)
      rw [hbt m h] at h4
      exact hT _ (List.getElem_mem h) (UInt8.toNat_inj.1 (by omega))
    · exact h
    · exfalso
      have hm2 : m = T.length + 1 := by omega
      apply h3 (by omega)
      obtain ⟨c, h6, h7⟩ := bt_of (mkS (T ++ [10])) (m - 1) (by omega)
      rw [mkS_list, show m - 1 = T.length by omega, List.getElem?_append_right (Nat.le_refl _), Nat.sub_self] at h6
      rw [h7, ← Option.some.inj (h6 : some (10 : UInt8) = some c)]
  apply ba_ext
  rw [Lib.extract_data, mkS_list, mkS_list, hm]
  simp
set_option maxRecDepth 20000 in
set_option maxHeartbeats 1600000 in
/-- nextToken. -/
theorem nextTok (cb b g off l cap k : Nat) (lr : Int) (cur : Array Value) (T E : List UInt8) (w : World) (h : BufAt b g off l cap lr cur (T ++ 10 :: E) w) (hT : ∀ x ∈ T, x ≠ 10) (hl : l ≤ 100000000) (hc : Blk w cb 2 [.int .i64 k]) (hk : 1 ≤ k) (hk2 : k ≤ 100000000) (hcb : cb ≠ b) (hcg : cb ≠ g) :
    Calls Tryd.prog 88 #[.pointer (some ⟨cb, 0, none⟩), .pointer (some ⟨b, 0, none⟩)] w fun e w' => e = .returned (.string (mkS T)) ∧ BufAt b g (off + T.length + 1) l cap (-1) cur E w' ∧ Blk w' cb 2 [.int .i64 ((k - 1 : Nat) : Int)] ∧ Far [cb, b] w w' := by
  have c0 : w.cell? ⟨cb, 0, none⟩ = some (.int .i64 k) := by rw [hc.cell]; rfl
  have f0 := hc.frozen 0
  have u1 : IntKind.i64.wrap ((k : Int) - 1) = ((k - 1 : Nat) : Int) := by rw [IntWalk.i64_in _ (by omega)]; omega
  obtain ⟨k1, hk1⟩ : ∃ k1, k - 1 = k1 := ⟨_, rfl⟩
  rw [hk1] at u1 ⊢
  have HB1 : Hid (BufAt b g off l cap lr cur (T ++ 10 :: E) (w.setCell ⟨cb, 0, none⟩ (.int .i64 k1))) := Lib.hid ⟨h.blk.far (p := ⟨cb, 0, none⟩) (fun e => hcb e.symm) _, by rw [Below.heap_setCell _ _ _ g (fun e => hcg e.symm)]; exact h.row, h.size, h.len, h.le, h.big, h.at_, h.ne⟩
  have HC1 : Hid (Blk (w.setCell ⟨cb, 0, none⟩ (.int .i64 k1)) cb 2 [.int .i64 (k1 : Int)]) := Lib.hid (hc.set_ 0 _)
  have HF1 : Hid (Far [cb, b] w (w.setCell ⟨cb, 0, none⟩ (.int .i64 k1))) := Lib.hid ((Far.refl _ w).setCell (p := ⟨cb, 0, none⟩) (.inl (by simp)) _)
  have HT := Lib.hid hT
  have hsz : (mkS (T ++ [10])).size ≤ 200000000 := by
    have h1 := h.len
    rw [mkS_len]
    rw [List.length_append, List.length_cons] at h1
    simp
    omega
  clear h hT hc hk1
  go_enter Tryd.func88, Tryd.ntmps88
  go_wp2_with fail
  refine (readStr b g off l cap lr cur T E _ HB1.out HT.out hl).mono ?_
  rintro e w1 ⟨rfl, hb, hf⟩
  have HB := Lib.hid hb
  have HC : Hid (Blk w1 cb 2 [.int .i64 (k1 : Int)]) := Lib.hid (HC1.out.of_far hf (by simpa using hcb))
  have HF : Hid (Far [cb, b] w w1) := Lib.hid (HF1.out.trans (Far.mono hf (fun j _ hj => by simp at hj ⊢; exact .inr hj)))
  clear hb hf
  go_wp2_with fail
  refine (trimRight1 _ 10 _ (by omega)).mono ?_
  rintro e w2 ⟨⟨m, hm, rfl⟩, q, rfl⟩
  rw [trim_line HT.out hm]
  go_wp2
  go_ret
  exact ⟨rfl, ⟨HB.out.blk, HB.out.row, HB.out.size, HB.out.len, HB.out.le, HB.out.big, HB.out.at_, HB.out.ne⟩, HC.out.drewN q, HF.out.drewN q⟩
end Go.Proofs.YtlchagphjmfooaaDoor
