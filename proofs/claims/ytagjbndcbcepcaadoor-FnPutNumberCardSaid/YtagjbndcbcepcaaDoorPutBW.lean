/- spec.PutBytes walked; the law FnBytesAreRead. -/
import Derived.Test.YtagjbndcbcepcaaDoorPutB
import Derived.Test.YtagjbndcbcepcaaDoorNumI
namespace Go.Proofs.YtagjbndcbcepcaaDoor
open Go.RowKit Go.PlainAid
set_option linter.unusedVariables false

theorem bys_setB (bs : List UInt8) (p : Nat) (v : UInt8) : (bys bs).set p (.int .u8 (v.toNat : Int)) = bys (bs.set p v) := by simp [bys, List.map_set]
theorem neg_be (m : Nat) (n : Int) : (n / ((256 ^ m : Nat) : Int) < 0) ↔ n < 0 := by
  have hp : (0 : Int) < ((256 ^ m : Nat) : Int) := Int.ofNat_lt.2 (Nat.pow_pos (by omega))
  constructor
  · intro h
    by_cases h1 : n < 0
    · exact h1
    · have := Int.ediv_nonneg (show 0 ≤ n by omega) (Int.le_of_lt hp)
      omega
  · exact fun h => Int.ediv_neg_of_neg_of_pos h hp
def PutBP (m : Nat) (n : Int) (w : World) (e : Ending) (w' : World) : Prop := e = .returned (.slice (some ⟨w.heap.size, 0, none⟩) (m + 1) (m + 1)) ∧ Blk w' w.heap.size 5 (bys (fieldB m n)) ∧ Below w.heap.size w w'
set_option maxHeartbeats 1600000 in
set_option maxRecDepth 20000 in
theorem specPutBytes (m : Nat) (z n : Int) (w : World) (hz : z = (m : Int) + 1) (hm : m ≤ 1000) (h1 : -9223372036854775808 ≤ n) (h2 : n ≤ 9223372036854775807) :
    Calls Tryd.prog 19 #[.int .i64 z, .int .i64 n] w (PutBP m n w) := by
  subst hz
  go_enter Tryd.func19, Tryd.ntmps19
  go_wp2_with (refine wpList_make_blk _ (o := ⟨some 8, _, _, _, _, _⟩) rfl _ _ _ rfl 5 _ 1 Tryd.underlying22 u8info rfl _ _ ((m : Int) + 1) ((m : Int) + 1) (m + 1) rfl rfl (by rw [Int.natCast_add]; rfl) (by rw [Int.natCast_add]; rfl) (by omega) (by omega) ?_)
  intro w1 b1 g1 z1
  have HB1 : Hid (Blk w1 w.heap.size 5 (bys (zbs (m + 1)))) := by rw [bys_zbs]; exact b1
  have HW1 : Hid (Below w.heap.size w w1) := grownBy_below g1 (Nat.le_refl _) (by simp)
  have z1' : w1.heap.size = w.heap.size + 1 := z1
  clear b1 g1 z1
  go_wp2
  go_loopw [1, 6] (fun v1 v6 wr => ∃ (j t : Nat) (q : Int), t + j = m ∧ v6 = .int .i64 j ∧ v1 = .int .i64 q ∧ -9223372036854775808 ≤ q ∧ q ≤ 9223372036854775807 ∧ Hid (q = n / ((256 ^ t : Nat) : Int)) ∧ Hid (Blk wr w.heap.size 5 (bys (zbs (1 + j) ++ be t n))) ∧ Hid (Below w.heap.size w wr)) (fun _ v6 _ => (intOf v6).toNat)
  case atStart => exact ⟨m, 0, n, by omega, rfl, rfl, h1, h2, Lib.hid (by simp), Lib.hid (by rw [Nat.add_comm 1 m]; simpa [be] using HB1.out), HW1⟩
  case round =>
    obtain ⟨j, t, q, hjt, rfl, rfl, hq1, hq2, hQ, hA, hW⟩ := hrel
    by_cases hj : 0 < j
    · have hj' : (0 : Int) < (j : Int) := by omega
      have hjm : (j : Int) < (m : Int) + 1 := by omega
      have q0 : wr.cell? ⟨w.heap.size, j, none⟩ = some (.int .u8 (byt (zbs (1 + j) ++ be t n) j)) := by rw [hA.out.cell, bys_get _ _ (by rw [List.length_append, length_zbs]; omega)]
      have q1 := hA.out.frozen j
      have HS : Hid (Blk (wr.setCell ⟨w.heap.size, j, none⟩ (.int .u8 (q % 256))) w.heap.size 5 (bys (zbs (1 + (j - 1)) ++ be (t + 1) n))) := Lib.hid (by
        have h3 := put_set (m := m) (t := t) n (by omega)
        rw [show m - t = j by omega, show m - (t + 1) = j - 1 by omega] at h3
        rw [← h3, ← bys_setB, u8_toNat, ← hQ.out]
        exact hA.out.set_ j _)
      have HQ2 : Hid (q / 256 = n / ((256 ^ (t + 1) : Nat) : Int)) := Lib.hid (by rw [← be_next, hQ.out])
      have hb1 : -9223372036854775808 ≤ q / 256 := by omega
      have hb2 : q / 256 ≤ 9223372036854775807 := by omega
      go_wp2
      go_roundw
      case rel => exact ⟨j - 1, t + 1, q / 256, by omega, by go_num, rfl, hb1, hb2, HQ2, HS, Lib.hid (hW.out.setCell (Nat.le_refl _) _)⟩
      case measure => simp [intOf]; omega
    · obtain rfl : j = 0 := by omega
      obtain rfl : t = m := by omega
      have q0 : wr.cell? ⟨w.heap.size, 0, none⟩ = some (.int .u8 (byt (zbs (1 + 0) ++ be t n) 0)) := by rw [hA.out.cell, bys_get _ _ (by rw [List.length_append, length_zbs]; omega)]
      have q1 := hA.out.frozen 0
      have HA2 : Hid (Blk (wr.setCell ⟨w.heap.size, 0, none⟩ (.int .u8 128)) w.heap.size 5 (bys ((128 : UInt8) :: be t n))) := Lib.hid (by
        have h3 := hA.out.set_ 0 (.int .u8 128)
        exact h3)
      have HW2 : Hid (Below w.heap.size w (wr.setCell ⟨w.heap.size, 0, none⟩ (.int .u8 128))) := Lib.hid (hW.out.setCell (Nat.le_refl _) _)
      have hneg := neg_be t n
      rw [← hQ.out] at hneg
      by_cases hn : n < 0
      · have hqn : q < 0 := hneg.2 hn
        have HH : Hid (headB n = 255) := Lib.hid (by unfold headB; rw [if_pos hn])
        have p0 : (wr.setCell ⟨w.heap.size, 0, none⟩ (.int .u8 128)).cell? ⟨w.heap.size, 0, none⟩ = some (.int .u8 128) := by rw [HA2.out.cell]; rfl
        have p1 := HA2.out.frozen 0
        clear hneg hn
        go_wp2
        go_ret
        exact ⟨rfl, by unfold fieldB; rw [HH.out]; exact HA2.out.set_ 0 (.int .u8 255), HW2.out.setCell (Nat.le_refl _) _⟩
      · have hqn : ¬ q < 0 := fun h => hn (hneg.1 h)
        have HH : Hid (headB n = 128) := Lib.hid (by unfold headB; rw [if_neg hn])
        clear hneg hn
        go_wp2
        go_ret
        exact ⟨rfl, by unfold fieldB; rw [HH.out]; exact HA2.out, HW2.out⟩

theorem numR_fieldB {m : Nat} {n y : Int} {ok : Bool} (hf : fitsB m n = true) (h1 : -9223372036854775808 ≤ n) (h2 : n ≤ 9223372036854775807) (hR : NumR (fieldB m n) y ok) : ok = true ∧ y = n := by
  obtain ⟨neg, N, hn, hneg⟩ := sg_of n
  obtain ⟨e1, e2, e3⟩ := fieldB_U (m := m) hn hneg
  obtain ⟨e4, e5⟩ := fits_N hn hf h1 h2
  rcases hR with ⟨h, _⟩ | ⟨x, r, e, hx, hB⟩
  · have := h _ _ rfl
    omega
  · unfold fieldB at e
    cases e
    unfold BinR at hB
    rw [e1, e3, e4] at hB
    rcases hB with ⟨_, h, h'⟩ | ⟨h, _⟩
    · exact ⟨h, by rw [h', hn]⟩
    · omega

set_option maxHeartbeats 1600000 in
set_option maxRecDepth 20000 in
theorem fnBytes_walk {a a1 a2 : Addr} (x n : Int) (w : World) (hx : -9223372036854775808 ≤ x) (hx' : x ≤ 9223372036854775807) (h1 : -9223372036854775808 ≤ n) (h2 : n ≤ 9223372036854775807)
    (hE : Err w.heap.size w 0 a) (hE1 : Err w.heap.size w 2 a1) (hE2 : Err w.heap.size w 3 a2) :
    Calls Tryd.prog 6 #[.int .i64 x, .int .i64 n] w fun e w' => e = .returned (.bool true) ∧ Below w.heap.size w w' := by
  have HE := Lib.hid hE
  have HE1 := Lib.hid hE1
  have HE2 := Lib.hid hE2
  obtain ⟨s, hs⟩ : ∃ s : Nat, x % 21 = (s : Int) := ⟨(x % 21).toNat, by omega⟩
  have hs20 : s ≤ 20 := by omega
  have HPX := Lib.hid hs
  have hmk : -9223372036854775808 ≤ (2 : Int) + (s : Int) ∧ (2 : Int) + (s : Int) ≤ 9223372036854775807 := by omega
  obtain ⟨hmk1, hmk2⟩ := hmk
  clear hs hE hE1 hE2
  have HFS : Hid (∀ w, Calls Tryd.prog 17 #[.int .i64 (2 + (s : Int)), .int .i64 n] w (FitP (s + 1) n w)) := Lib.hid (fun w => specFitsB s _ n w (by omega) hs20 h1 h2)
  have HFI : Hid (∀ w, Calls Tryd.prog 18 #[.int .i64 (2 + (s : Int)), .int .i64 n] w (FitP (s + 1) n w)) := Lib.hid (fun w => implFitsB s _ n w (by omega) hs20 h1 h2)
  have HPB : Hid (∀ w, Calls Tryd.prog 19 #[.int .i64 (2 + (s : Int)), .int .i64 n] w (PutBP (s + 1) n w)) := Lib.hid (fun w => specPutBytes (s + 1) _ n w (by omega) (by omega) h1 h2)
  by_cases hf : fitsB (s + 1) n = true
  · have HF := Lib.hid hf
    have HFL : Hid ((fieldB (s + 1) n).length = s + 1 + 1) := Lib.hid (by simp [fieldB, be_len])
    clear hf
    go_enter Tryd.func6, Tryd.ntmps6
    go_wp2_with (go_at_call 11; refine (below_any _ _ _ hx hx' (by omega) (by omega)).mono ?_; rw [HPX.out]; rintro e w' ⟨rfl, rfl⟩)
    refine (HFS.out _).mono ?_
    unfold FitP
    rw [HF.out]
    rintro e w1 ⟨rfl, rfl⟩
    go_wp2_with fail
    refine (HPB.out _).mono ?_
    rintro e w1 ⟨rfl, hb, hbel⟩
    have HB := Lib.hid hb
    have HBL := Lib.hid hbel
    have HR := Lib.hid (RB.of_blk hb)
    have hsz : w.heap.size + 1 ≤ w1.heap.size := hb.lt
    have HE' := Lib.hid (HE.out.more hbel)
    have HE1' := Lib.hid (HE1.out.more hbel)
    have HE2' := Lib.hid (HE2.out.more hbel)
    clear hb hbel
    go_wp2_with fail
    refine (implNumber _ (s + 1 + 1) (s + 1 + 1) _ (fieldB (s + 1) n) _ HFL.out HR.out hsz (by omega) HE'.out HE1'.out HE2'.out).mono ?_
    rintro e w2 ⟨y, ok, rfl, hR, hb2⟩
    obtain ⟨rfl, rfl⟩ := numR_fieldB HF.out h1 h2 hR
    have HB2 : Hid (Below w.heap.size w w2) := Lib.hid (HBL.out.trans (hb2.mono HBL.out.size))
    clear hR hb2
    go_wp2_with fail
    refine (HFI.out _).mono ?_
    unfold FitP
    rw [HF.out]
    rintro e w3 ⟨rfl, rfl⟩
    go_wp2
    go_ret
    exact ⟨rfl, HB2.out⟩
  · have HF : Hid (fitsB (s + 1) n = false) := Lib.hid (by simpa using hf)
    clear hf
    go_enter Tryd.func6, Tryd.ntmps6
    go_wp2_with (go_at_call 11; refine (below_any _ _ _ hx hx' (by omega) (by omega)).mono ?_; rw [HPX.out]; rintro e w' ⟨rfl, rfl⟩)
    refine (HFS.out _).mono ?_
    unfold FitP
    rw [HF.out]
    rintro e w1 ⟨rfl, rfl⟩
    go_wp2_with fail
    refine (HFI.out _).mono ?_
    unfold FitP
    rw [HF.out]
    rintro e w3 ⟨rfl, rfl⟩
    go_wp2
    go_ret
    exact ⟨rfl, Below.refl _ _⟩
end Go.Proofs.YtagjbndcbcepcaaDoor
