/- The law FnSumsTellOneByte: its plain part and its walk. -/
import Derived.Test.YtiahifohkhdmdaaSumsLaw
import Derived.Test.YtiahifohkhdmdaaBelow
import Derived.Laws.BitsAllLaws
namespace Go.Proofs.Ytiahifohkhdmdaa
open Go.RowKit

theorem byt_set (bs : List UInt8) (p k : Nat) (v : UInt8) (hp : p < bs.length) : byt (bs.set p v) k = if k = p then (v.toNat : Int) else byt bs k := by
  unfold byt
  by_cases h : k = p
  · subst h; simp [List.getD, hp]
  · simp [List.getD, h, List.getElem?_set_ne (Ne.symm h)]
theorem bys_set (bs : List UInt8) (p : Nat) (v : UInt8) : (bys bs).set p (.int .u8 (v.toNat : Int)) = bys (bs.set p v) := by simp [bys, List.map_set]
theorem sumU_set (bs : List UInt8) (p : Nat) (v : UInt8) (hp : p < bs.length) (k : Nat) :
    sumU (bs.set p v) k = sumU bs k + if p < k ∧ ¬ (148 ≤ p ∧ p < 156) then (v.toNat : Int) - byt bs p else 0 := by
  induction k with
  | zero => simp [sumU]
  | succ k ih =>
    rw [sumU, sumU, ih, byt_set bs p k v hp]
    by_cases h1 : k = p
    · subst h1
      by_cases h2 : 148 ≤ k ∧ k < 156
      · simp [h2]
      · simp [h2]; omega
    · by_cases h2 : 148 ≤ p ∧ p < 156
      · simp [h1, h2]
      · by_cases h3 : p < k
        · simp [h1, h2, h3, show p < k + 1 by omega]; omega
        · simp [h1, h3, show ¬ p < k + 1 by omega]
theorem sumS_set (bs : List UInt8) (p : Nat) (v : UInt8) (hp : p < bs.length) (k : Nat) :
    sumS (bs.set p v) k = sumS bs k + if p < k ∧ ¬ (148 ≤ p ∧ p < 156) then sgn (v.toNat : Int) - sgn (byt bs p) else 0 := by
  induction k with
  | zero => simp [sumS]
  | succ k ih =>
    rw [sumS, sumS, ih, byt_set bs p k v hp]
    by_cases h1 : k = p
    · subst h1
      by_cases h2 : 148 ≤ k ∧ k < 156
      · simp [h2]
      · simp [h2]; omega
    · by_cases h2 : 148 ≤ p ∧ p < 156
      · simp [h1, h2]
      · by_cases h3 : p < k
        · simp [h1, h2, h3, show p < k + 1 by omega]; omega
        · simp [h1, h3, show ¬ p < k + 1 by omega]
theorem sumU_ge (bs : List UInt8) (k : Nat) : (if 149 ≤ k then (32 : Int) else 0) ≤ sumU bs k := by
  induction k with
  | zero => simp [sumU]
  | succ k ih =>
    have := byt_lo bs k
    have := sumU_bd bs k
    unfold sumU
    by_cases h : 148 ≤ k ∧ k < 156
    · rw [if_pos h]; split <;> omega
    · rw [if_neg h]
      split
      · rw [if_pos (by omega)] at ih; omega
      · split at ih <;> omega
theorem SU_pos (bs : List UInt8) : 0 < SU bs := by
  have := sumU_ge bs 512
  unfold SU
  rw [if_pos (by omega)] at this
  omega
theorem sgn_inj (a b : Int) (ha : 0 ≤ a) (ha' : a ≤ 255) (hb : 0 ≤ b) (hb' : b ≤ 255) (h : sgn a = sgn b) : a = b := by
  unfold sgn at h
  split at h <;> split at h <;> omega

/-- What one changed byte does. -/
theorem tell_plain (P : List UInt8) (hl : P.length = 512) (p : Nat) (hp : p < 512) (c : Int) (hc0 : 0 ≤ c) (hc1 : c ≤ 255) (hcz : c ≠ 0) :
    ∃ v : UInt8, bits .xor .u8 (byt P p) c = (v.toNat : Int) ∧
      (148 ≤ p ∧ p < 156 → SU (P.set p v) = SU P ∧ SS (P.set p v) = SS P) ∧
      (¬ (148 ≤ p ∧ p < 156) → SU (P.set p v) ≠ SU P ∧ SS (P.set p v) ≠ SS P) := by
  have b0 := byt_lo P p
  have b1 := byt_hi P p
  have hx := u8_xor (byt P p) c b0 (by omega) hc0 (by omega)
  have hlt : (byt P p).toNat ^^^ c.toNat < 256 := by
    have := Nat.xor_lt_two_pow (x := (byt P p).toNat) (y := c.toNat) (n := 8) (by omega) (by omega)
    omega
  refine ⟨UInt8.ofNat ((byt P p).toNat ^^^ c.toNat), ?_, ?_, ?_⟩
  · rw [hx]
    have : (UInt8.ofNat ((byt P p).toNat ^^^ c.toNat)).toNat = (byt P p).toNat ^^^ c.toNat := by
      rw [UInt8.toNat_ofNat']; exact Nat.mod_eq_of_lt hlt
    rw [this]
  · intro hin
    unfold SU SS
    rw [sumU_set P p _ (by omega), sumS_set P p _ (by omega)]
    simp [hin]
  · intro hout
    have hv : (UInt8.ofNat ((byt P p).toNat ^^^ c.toNat)).toNat = (byt P p).toNat ^^^ c.toNat := by
      rw [UInt8.toNat_ofNat']; exact Nat.mod_eq_of_lt hlt
    have hne : ((byt P p).toNat ^^^ c.toNat) ≠ (byt P p).toNat := by
      intro h
      have h2 : (byt P p).toNat ^^^ ((byt P p).toNat ^^^ c.toNat) = (byt P p).toNat ^^^ (byt P p).toNat := by rw [h]
      rw [← Nat.xor_assoc, Nat.xor_self, Nat.zero_xor] at h2
      omega
    unfold SU SS
    rw [sumU_set P p _ (by omega), sumS_set P p _ (by omega), if_pos ⟨hp, hout⟩, if_pos ⟨hp, hout⟩, hv]
    refine ⟨by omega, fun h => ?_⟩
    have h3 : sgn (((byt P p).toNat ^^^ c.toNat : Nat) : Int) = sgn (byt P p) := by omega
    have := sgn_inj _ _ (by omega) (by omega) b0 b1 h3
    omega

set_option maxRecDepth 20000 in
set_option maxHeartbeats 800000 in
theorem fnSumsTellOneByte_walk (A : Option Addr) (n cc : Nat) (bs : List UInt8) (x c : Int) (w : World) (hn : bs.length = n) (hr : RB w w.heap.size A bs) (hm : n ≤ 9223372036854775807)
    (hx : -9223372036854775808 ≤ x) (hx' : x ≤ 9223372036854775807) (hc0 : 0 ≤ c) (hc1 : c ≤ 255) :
    Calls Try.prog 4 #[.slice A n cc, .int .i64 x, .int .u8 c] w fun e w' => e = .returned (.bool true) ∧ Below w.heap.size w w' := by
  have HN := Lib.hid hn
  have HR := Lib.hid hr
  have HP := Lib.hid (length_padded bs)
  have HI := Lib.hid (padded_id (padded bs) HP.out)
  clear hn hr
  by_cases hbig : 2147483647 < n
  · go_enter Try.func4, Try.ntmps4
    go_wp2
    go_ret
    exact ⟨rfl, Below.refl _ _⟩
  · obtain ⟨p, hp⟩ : ∃ p : Nat, x % 512 = (p : Int) := ⟨(x % 512).toNat, by omega⟩
    have hp5 : p < 512 := by omega
    have HX := Lib.hid (below_any x 512)
    have HPX := Lib.hid hp
    clear hp
    by_cases hcz : c = 0
    · subst hcz
      go_enter Try.func4, Try.ntmps4
      go_wp2_with (refine wpList_make_blk _ (o := ⟨some 15, _, _, _, _, _⟩) rfl _ _ _ rfl 5 _ 1 Try.underlying22 u8info rfl _ _ 512 512 512 rfl rfl rfl rfl (by omega) (by omega) ?_)
      intro w1 b1 g1 z1
      have HB1 : Hid (Blk w1 w.heap.size 5 (bys (zbs 512))) := by rw [bys_zbs]; exact b1
      have HW1 : Hid (Below w.heap.size w w1) := grownBy_below g1 (Nat.le_refl _) (by simp)
      have HR1 := Lib.hid (HR.out.below HW1.out)
      have HL : Hid (0 + 512 ≤ (zbs 512).length) := by show _ ≤ _; rw [length_zbs]; omega
      have Z1 := Lib.hid z1
      clear b1 g1 z1
      go_wp2_with (refine wpList_copy_bytes (o := ⟨some 18, _, _, _, _, _⟩) _ rfl (.tmp 16) (.tmp 17) 22 22 rfl 5 Try.underlying22 u8size w.heap.size 0 512 512 n cc A rfl rfl _ bs _ w.heap.size HB1.out HN.out HR1.out HL.out ?_)
      intro w2 b2 g2 z2
      have HW2 := Lib.hid (HW1.out.grown g2 (by rw [Z1.out]; omega) (by simp))
      clear b2 g2 z2
      go_wp2_with (go_at_call 13; refine (below_any _ _ _ hx hx' (by omega) (by omega)).mono ?_; rw [HPX.out]; rintro e w' ⟨rfl, rfl⟩)
      go_ret
      exact ⟨rfl, HW2.out⟩
    · obtain ⟨v, hv, hin, hout⟩ := tell_plain (padded bs) HP.out p hp5 c hc0 hc1 hcz
      have hcz' : (c == 0) = false := by simpa using hcz
      have HV := Lib.hid hv
      have HP' : Hid (((padded bs).set p v).length = 512) := by show _ = _; rw [List.length_set]; exact HP.out
      have HI' := Lib.hid (padded_id _ HP'.out)
      have hpos := SU_pos (padded bs)
      obtain ⟨Q, hQ⟩ : ∃ Q, Q = (padded bs).set p v := ⟨_, rfl⟩
      rw [← hQ] at hin hout HP' HI'
      have HQ := Lib.hid hQ
      have HIN := Lib.hid hin
      have HOUT := Lib.hid hout
      clear hQ hv hin hout hcz
      go_enter Try.func4, Try.ntmps4
      go_wp2_with (refine wpList_make_blk _ (o := ⟨some 15, _, _, _, _, _⟩) rfl _ _ _ rfl 5 _ 1 Try.underlying22 u8info rfl _ _ 512 512 512 rfl rfl rfl rfl (by omega) (by omega) ?_)
      intro w1 b1 g1 z1
      have HB1 : Hid (Blk w1 w.heap.size 5 (bys (zbs 512))) := by rw [bys_zbs]; exact b1
      have HW1 : Hid (Below w.heap.size w w1) := grownBy_below g1 (Nat.le_refl _) (by simp)
      have HR1 := Lib.hid (HR.out.below HW1.out)
      have HL : Hid (0 + 512 ≤ (zbs 512).length) := by show _ ≤ _; rw [length_zbs]; omega
      have Z1 := Lib.hid z1
      clear b1 g1 z1
      go_wp2_with (refine wpList_copy_bytes (o := ⟨some 18, _, _, _, _, _⟩) _ rfl (.tmp 16) (.tmp 17) 22 22 rfl 5 Try.underlying22 u8size w.heap.size 0 512 512 n cc A rfl rfl _ bs _ w.heap.size HB1.out HN.out HR1.out HL.out ?_)
      intro w2 b2 g2 z2
      have HB2 : Hid (Blk w2 w.heap.size 5 (bys (padded bs))) := b2
      have HW2 := Lib.hid (HW1.out.grown g2 (by rw [Z1.out]; omega) (by simp))
      have HZ2 : Hid (w.heap.size + 1 ≤ w2.heap.size) := by show _ ≤ _; rw [z2, Z1.out]; omega
      clear b2 g2 z2
      have HR2 := Lib.hid ((RB.of_blk HB2.out).more HZ2.out)
      go_wp2_with (go_at_call 13; refine (below_any _ _ _ hx hx' (by omega) (by omega)).mono ?_; rw [HPX.out]; rintro e w' ⟨rfl, rfl⟩)
      refine (implSums512 _ _ _ _ _ _ HP.out HR2.out (Nat.le_refl _)).mono ?_
      rw [HI.out]
      rintro e w3 ⟨rfl, hb3⟩
      have HB3 := Lib.hid (HB2.out.below hb3 (by have := HZ2.out; omega))
      have HW3 := Lib.hid (HW2.out.trans (hb3.mono HW2.out.size))
      have HZ3 : Hid (w.heap.size + 1 ≤ w3.heap.size) := by show _ ≤ _; have := HZ2.out; have := hb3.size; omega
      have HB4 : Hid (Blk (w3.setCell ⟨w.heap.size, p, none⟩ (.int .u8 (v.toNat : Int))) w.heap.size 5 (bys Q)) := by rw [HQ.out, ← bys_set]; exact HB3.out.set_ p _
      have HR4 := Lib.hid ((RB.of_blk HB4.out).more (show _ ≤ (w3.setCell ⟨w.heap.size, p, none⟩ (.int .u8 (v.toNat : Int))).heap.size by simp [World.setCell]; exact HZ3.out))
      have hcell : w3.cell? ⟨w.heap.size, p, none⟩ = some (.int .u8 (byt (padded bs) p)) := by rw [HB3.out.cell, bys_get _ _ (by rw [HP.out]; exact hp5)]
      have hfr : w3.frozen? ⟨w.heap.size, p, none⟩ = false := HB3.out.frozen p
      have hv := HV.out
      clear hb3
      by_cases hin : 148 ≤ p ∧ p < 156
      · obtain ⟨e1, e2⟩ := HIN.out hin
        obtain ⟨ha, hb⟩ := hin
        have E1 := Lib.hid e1
        have E2 := Lib.hid e2
        clear e1 e2
        go_wp2_with (go_at_call 12; refine (implSums512 _ _ _ _ _ _ HP'.out HR4.out (Nat.le_refl _)).mono ?_; rw [HI'.out, E1.out, E2.out]; rintro e w5 ⟨rfl, hb5⟩)
        go_ret
        exact ⟨rfl, (HW3.out.setCell (p := ⟨w.heap.size, p, none⟩) (Nat.le_refl _) _).trans (hb5.mono (by simp [World.setCell]; have := HZ3.out; omega))⟩
      · obtain ⟨e1, e2⟩ := HOUT.out hin
        have e1' : (SU (padded bs) != SU Q) = true := by rw [bne_iff_ne]; exact Ne.symm e1
        have e2' : (SS (padded bs) != SS Q) = true := by rw [bne_iff_ne]; exact Ne.symm e2
        clear e1 e2
        rcases (show p < 148 ∨ 156 ≤ p from by omega) with hi | hi
        all_goals
          clear hin
          go_wp2_with (go_at_call 12; refine (implSums512 _ _ _ _ _ _ HP'.out HR4.out (Nat.le_refl _)).mono ?_; rw [HI'.out]; rintro e w5 ⟨rfl, hb5⟩)
          go_ret
          exact ⟨rfl, (HW3.out.setCell (p := ⟨w.heap.size, p, none⟩) (Nat.le_refl _) _).trans (hb5.mono (by simp [World.setCell]; have := HZ3.out; omega))⟩
end Go.Proofs.Ytiahifohkhdmdaa
