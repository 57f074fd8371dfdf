/- readGNUSparseMap1x0: its walk, three ways. -/
import Derived.Test.YtlchagphjmfooaaDoorRm
namespace Go.Proofs.YtlchagphjmfooaaDoor
open Go Go.RowKit Go.PlainAid
set_option linter.unusedVariables false

/-- It ends with an error. -/
def RmNo (Br : Nat) (w : World) (e : Ending) (w' : World) : Prop := (∃ x, e = .returned (.tuple #[.slice none 0 0, errV x])) ∧ Below Br w w'
theorem rm_below {Br rb : Nat} {w0 w w' : World} (hb : Below rb w0 w) (hB : Br < rb) (h : FarT (rb + 5) [Br, rb + 1, rb + 2, rb + 3, rb + 4] w w') : Below Br w0 w' :=
  (hb.mono (Nat.le_of_lt hB)).trans (h.below (fun k hk => by simp at hk; omega) (by omega))
set_option maxRecDepth 20000 in
set_option maxHeartbeats 1600000 in
theorem rmShort {a b : Addr} (Br : Nat) (D : List UInt8) (w : World) (hb : BrAt Br D w) (hE : Err Br w 2 a) (hE2 : Err Br w 3 b) (hD : D.length < 512) :
    Calls Tryd.prog 67 #[.iface 126 (.pointer (some ⟨Br, 0, none⟩))] w (RmNo Br w) := by
  have hBr := hb.lt
  have HF : Hid (Calls Tryd.prog 85 #[.int .i64 1, .pointer (some ⟨w.heap.size + 1, 0, none⟩), .pointer (some ⟨w.heap.size + 4, 0, none⟩), .pointer (some ⟨w.heap.size, 0, none⟩), .pointer (some ⟨w.heap.size + 3, 0, none⟩), .pointer (some ⟨w.heap.size + 2, 0, none⟩)] (vars0 Tryd.zeroCells155 Br w) fun e w' => e = .returned (errV b) ∧ Below Br w w') := Lib.hid (by
    have hv := (vars0_below Tryd.zeroCells155 Br w).mono (Nat.le_of_lt hBr)
    refine (feed Br w.heap.size 0 0 0 1 0 D [] (vars0 Tryd.zeroCells155 Br w) (vars0_feed hb) hBr (hE.below hv (Nat.le_refl _)) (hE2.below hv (Nat.le_refl _)) (by omega) (.inl (by omega)) (by omega) (by omega) (by omega)).mono ?_
    rintro e w' (⟨j, hj, hjD, hn, _, _, _⟩ | ⟨j, _, _, _, rfl, hf⟩)
    · exfalso
      obtain rfl : j = 0 := by omega
      simp [nl] at hn
    · exact ⟨rfl, rm_below (vars0_below Tryd.zeroCells155 Br w) hBr hf⟩)
  have hneq2 := fun w x => run_eql_iface_nil (P := Tryd.prog) (w := w) 105 isErr 226 x
  clear hb hE hE2
  unfold errV vars0 at HF
  go_enter Tryd.func67, Tryd.ntmps67
  go_wp2_with fail
  refine HF.out.mono ?_
  rintro e w1 ⟨rfl, hb1⟩
  go_wp2
  go_ret2
  exact ⟨⟨b, rfl⟩, hb1⟩
set_option maxRecDepth 20000 in
set_option maxHeartbeats 1600000 in
theorem rmFirst {a b c c1 c2 : Addr} (Br : Nat) (D T E : List UInt8) (w : World) (hb : BrAt Br D w) (hE : Err Br w 2 a) (hE2 : Err Br w 3 b) (hE3 : Err Br w 0 c) (hE4 : Err Br w 6 c1) (hE5 : Err Br w 7 c2) (hD : 512 ≤ D.length) (hP : D.take 512 = T ++ 10 :: E) (hT : ∀ x ∈ T, x ≠ 10) (hno : ¬ okT T) :
    Calls Tryd.prog 67 #[.iface 126 (.pointer (some ⟨Br, 0, none⟩))] w (RmNo Br w) := by
  have hBr := hb.lt
  have hv := (vars0_below Tryd.zeroCells155 Br w).mono (Nat.le_of_lt hBr)
  have HF := Lib.hid (feed1 (vars0_feed hb) hBr (hE.below hv (Nat.le_refl _)) (hE2.below hv (Nat.le_refl _)) hD hP hT)
  have HB0 := Lib.hid (vars0_below Tryd.zeroCells155 Br w)
  have HT := Lib.hid hT
  have HNO := Lib.hid (not_okT hno)
  have HE3 := Lib.hid hE3
  have HE4 := Lib.hid hE4
  have HE5 := Lib.hid hE5
  have hE5' : E.length ≤ 512 := by
    have h := congrArg List.length hP
    rw [List.length_take, List.length_append, List.length_cons] at h
    omega
  have hq : nl E ≤ 512 := Nat.le_trans (nl_le E) hE5'
  have hneq := fun w => run_eql_nil_nil_at (P := Tryd.prog) (w := w) 105 isErr
  have hneq3 := fun w x => run_eql_iface_nil (P := Tryd.prog) (w := w) 105 isErr 188 x
  clear hb hE hE2 hE3 hE4 hE5 hv hP hT hno
  unfold vars0 at HF
  go_enter Tryd.func67, Tryd.ntmps67
  go_wp2_with fail
  refine HF.out.mono ?_
  rintro e w1 ⟨rfl, hS⟩
  have HS := Lib.hid hS
  clear hS HF
  go_wp2_with fail
  refine (rmTok HS.out hBr HT.out (by omega) (by omega) (by omega)).mono ?_
  rintro e w2 ⟨rfl, htl, hS2, hf2⟩
  have HS2 := Lib.hid hS2
  have hb2 : Below Br w w2 := rm_below HB0.out hBr hS2.far
  have hbr2 : Br ≤ w2.heap.size := Nat.le_trans (Nat.le_of_lt hBr) (hb2.size)
  have HB2 := Lib.hid hb2
  have HPN := Lib.hid (parseInt_no0 (mkS T) w2 (by rw [mkS_len]; omega) (by rw [mkS_list]; exact HNO.out) (HE4.out.below hb2 (Nat.le_refl _)) (HE5.out.below hb2 (Nat.le_refl _)))
  clear hS2 hf2 hb2
  go_wp2_with fail
  refine HPN.out.mono ?_
  rintro e w3 ⟨x, N, rfl, hb3⟩
  have HB3 : Hid (Below Br w w3) := Lib.hid (HB2.out.trans (hb3.mono hbr2))
  have k1 := (HE3.out.below HB3.out (Nat.le_refl _)).cell
  unfold errV at k1
  clear hb3
  go_wp2
  go_region
  go_wp2
  go_ret2
  exact ⟨⟨c, rfl⟩, HB3.out.drew⟩
end Go.Proofs.YtlchagphjmfooaaDoor
