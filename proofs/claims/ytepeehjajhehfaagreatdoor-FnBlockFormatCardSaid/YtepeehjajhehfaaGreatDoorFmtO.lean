/- ZZFormat and impl.FormatOf at a block; the plain law: a written block is told, a changed one is not. -/
import Derived.Test.YtepeehjajhehfaaGreatDoorFmtB
import Derived.Test.YtepeehjajhehfaaGreatDoorTell
import Derived.Test.YtepeehjajhehfaaGreatDoorMB
namespace Go.Proofs.YtepeehjajhehfaaGreatDoor
open Go.RowKit Go.PlainAid
set_option linter.unusedVariables false

set_option maxRecDepth 20000 in
set_option maxHeartbeats 800000 in
theorem formatOf_no (A : Option Addr) (c B : Nat) (P : List UInt8) (w : World) (hl : P.length = 512) (hr : RB w B A P) (hB : B ≤ w.heap.size) (hck : CkNo P) (hE : Errs3 w) :
    Calls Tryz.prog 9 #[.slice A 512 c] w fun e w' => e = .returned (.int .i64 0) ∧ Below w.heap.size w w' := by
  have HZ : Hid (Calls Tryz.prog 30 #[.slice A 512 c] w fun e w' => e = .returned (.int .i64 0) ∧ Below w.heap.size w w') := Lib.hid (by
    have HB := Lib.hid (zzBlock A 512 c B P w hl hr hB)
    rw [padded_id P hl] at HB
    have HG : Hid (∀ w1, Blk w1 w.heap.size 118 (bys P) → Below w.heap.size w w1 → Calls Tryz.prog 50 #[.pointer (some ⟨w.heap.size, 0, none⟩)] w1 fun e w' => e = .returned (.int .i64 0) ∧ Below w.heap.size w w') := Lib.hid (by
      intro w1 hb hw
      refine (getFormat_no w.heap.size P w1 hl hb hck (hE.below hw)).mono ?_
      rintro e w' ⟨rfl, h⟩
      exact ⟨rfl, hw.trans (h.mono hw.size)⟩)
    clear hl hr hE hck
    go_enter Tryz.func30, Tryz.ntmps30
    go_wp2_with fail
    refine HB.out.mono ?_
    rintro e w1 ⟨rfl, hb, hw⟩
    have HC := Lib.hid (HG.out w1 hb hw)
    clear hb hw
    go_wp2_with fail
    refine HC.out.mono ?_
    rintro e w2 ⟨rfl, hb2⟩
    go_wp2
    go_ret
    exact ⟨rfl, hb2⟩)
  clear hl hr hE hck
  go_enter Tryz.func9, Tryz.ntmps9
  go_wp2_with fail
  refine HZ.out.mono ?_
  rintro e w2 ⟨rfl, hb2⟩
  go_wp2
  go_ret
  exact ⟨rfl, hb2⟩
set_option maxRecDepth 20000 in
set_option maxHeartbeats 800000 in
theorem formatOf_ustar (A : Option Addr) (c B : Nat) (P : List UInt8) (w : World) (hl : P.length = 512) (hr : RB w B A P) (hB : B ≤ w.heap.size) (hck : CkYes P) (hmg : Mg false P) (hzt : Zt P) (hE : Errs3 w) :
    Calls Tryz.prog 9 #[.slice A 512 c] w fun e w' => e = .returned (.int .i64 1) ∧ Below w.heap.size w w' := by
  have HZ : Hid (Calls Tryz.prog 30 #[.slice A 512 c] w fun e w' => e = .returned (.int .i64 1) ∧ Below w.heap.size w w') := Lib.hid (by
    have HB := Lib.hid (zzBlock A 512 c B P w hl hr hB)
    rw [padded_id P hl] at HB
    have HG : Hid (∀ w1, Blk w1 w.heap.size 118 (bys P) → Below w.heap.size w w1 → Calls Tryz.prog 50 #[.pointer (some ⟨w.heap.size, 0, none⟩)] w1 fun e w' => e = .returned (.int .i64 6) ∧ Below w.heap.size w w') := Lib.hid (by
      intro w1 hb hw
      refine (getFormat_ustar w.heap.size P w1 hl hb hck hmg hzt (hE.below hw)).mono ?_
      rintro e w' ⟨rfl, h⟩
      exact ⟨rfl, hw.trans (h.mono hw.size)⟩)
    clear hl hr hE hck hmg hzt
    go_enter Tryz.func30, Tryz.ntmps30
    go_wp2_with fail
    refine HB.out.mono ?_
    rintro e w1 ⟨rfl, hb, hw⟩
    have HC := Lib.hid (HG.out w1 hb hw)
    clear hb hw
    go_wp2_with fail
    refine HC.out.mono ?_
    rintro e w2 ⟨rfl, hb2⟩
    go_wp2
    go_ret
    exact ⟨rfl, hb2⟩)
  clear hl hr hE hck hmg hzt
  go_enter Tryz.func9, Tryz.ntmps9
  go_wp2_with fail
  refine HZ.out.mono ?_
  rintro e w2 ⟨rfl, hb2⟩
  go_wp2
  go_ret
  exact ⟨rfl, hb2⟩
set_option maxRecDepth 20000 in
set_option maxHeartbeats 800000 in
theorem formatOf_gnu (A : Option Addr) (c B : Nat) (P : List UInt8) (w : World) (hl : P.length = 512) (hr : RB w B A P) (hB : B ≤ w.heap.size) (hck : CkYes P) (hmg : Mg true P) (hzt : Zt P) (hE : Errs3 w) :
    Calls Tryz.prog 9 #[.slice A 512 c] w fun e w' => e = .returned (.int .i64 3) ∧ Below w.heap.size w w' := by
  have HZ : Hid (Calls Tryz.prog 30 #[.slice A 512 c] w fun e w' => e = .returned (.int .i64 3) ∧ Below w.heap.size w w') := Lib.hid (by
    have HB := Lib.hid (zzBlock A 512 c B P w hl hr hB)
    rw [padded_id P hl] at HB
    have HG : Hid (∀ w1, Blk w1 w.heap.size 118 (bys P) → Below w.heap.size w w1 → Calls Tryz.prog 50 #[.pointer (some ⟨w.heap.size, 0, none⟩)] w1 fun e w' => e = .returned (.int .i64 8) ∧ Below w.heap.size w w') := Lib.hid (by
      intro w1 hb hw
      refine (getFormat_gnu w.heap.size P w1 hl hb hck hmg hzt (hE.below hw)).mono ?_
      rintro e w' ⟨rfl, h⟩
      exact ⟨rfl, hw.trans (h.mono hw.size)⟩)
    clear hl hr hE hck hmg hzt
    go_enter Tryz.func30, Tryz.ntmps30
    go_wp2_with fail
    refine HB.out.mono ?_
    rintro e w1 ⟨rfl, hb, hw⟩
    have HC := Lib.hid (HG.out w1 hb hw)
    clear hb hw
    go_wp2_with fail
    refine HC.out.mono ?_
    rintro e w2 ⟨rfl, hb2⟩
    go_wp2
    go_ret
    exact ⟨rfl, hb2⟩)
  clear hl hr hE hck hmg hzt
  go_enter Tryz.func9, Tryz.ntmps9
  go_wp2_with fail
  refine HZ.out.mono ?_
  rintro e w2 ⟨rfl, hb2⟩
  go_wp2
  go_ret
  exact ⟨rfl, hb2⟩
/-! ### The plain law -/
theorem SU_splice (cs f : List UInt8) (hl : cs.length = 512) (hf : f.length = 8) : SU (splice cs 148 f) = SU cs ∧ SS (splice cs 148 f) = SS cs := by
  have key : ∀ k, k ≤ 512 → sumU (splice cs 148 f) k = sumU cs k ∧ sumS (splice cs 148 f) k = sumS cs k := by
    intro k
    induction k with
    | zero => intro _; exact ⟨rfl, rfl⟩
    | succ k ih =>
      intro hk
      obtain ⟨h1, h2⟩ := ih (by omega)
      by_cases hin : 148 ≤ k ∧ k < 156
      · rw [sumU_in _ _ hin, sumU_in _ _ hin, sumS_in _ _ hin, sumS_in _ _ hin, h1, h2]
        exact ⟨rfl, rfl⟩
      · have e : byt (splice cs 148 f) k = byt cs k := by
          unfold byt
          rw [List.getD_eq_getElem?_getD, List.getD_eq_getElem?_getD, splice_out (by omega) (by omega)]
        rw [sumU_out _ _ hin, sumU_out _ _ hin, sumS_out _ _ hin, sumS_out _ _ hin, h1, h2, e]
        exact ⟨rfl, rfl⟩
  exact key 512 (Nat.le_refl _)
theorem ckf_splice (cs f : List UInt8) (hl : cs.length = 512) (hf : f.length = 8) : ckf (splice cs 148 f) = f := by
  apply List.ext_getElem?
  intro j
  unfold ckf
  rw [List.getElem?_take]
  by_cases hj : j < 8
  · rw [if_pos hj, List.getElem?_drop, splice_in (by omega) (by omega) (by omega), show 148 + j - 148 = j by omega]
  · rw [if_neg hj, List.getElem?_eq_none (by omega)]
theorem field_sum {D : Nat} {n x : Int} {t : List UInt8} {ok : Bool} (hD : 6 ≤ D) (hD2 : D ≤ 7) (ht : D + t.length = 8) (hn : 0 ≤ n) (hn2 : n ≤ 130560) (hE : allEnd t) (hR : OctR (od D n ++ t) x ok) : ok = true ∧ x = n := by
  refine octR_field (D := D) (by omega) (by omega) (fitsO_yes rfl hn ?_) (by intro h; rw [h] at ht; simp at ht; omega) hE hR
  have h1 : D = 6 ∨ D = 7 := by omega
  rcases h1 with rfl | rfl
  · have : ((8 ^ 6 : Nat) : Int) = 262144 := by decide
    omega
  · have : ((8 ^ 7 : Nat) : Int) = 2097152 := by decide
    omega
theorem BlkOk.yes {b : Bool} {P : List UInt8} (h : BlkOk b P) : CkYes P := by
  obtain ⟨cs, t, D, rfl, hl, h1, h2, h3, hE, _, _⟩ := h
  intro x ok hR
  have hf : (od D (SU cs) ++ t).length = 8 := by rw [List.length_append, od_len]; exact h1
  rw [ckf_splice _ _ hl hf] at hR
  obtain ⟨s1, s2⟩ := SU_bd cs
  rw [(SU_splice cs _ hl hf).1]
  exact field_sum h2 h3 h1 s1 s2 hE hR
theorem sum_mod (bs : List UInt8) : ∀ k, sumS bs k % 256 = sumU bs k % 256
  | 0 => rfl
  | k + 1 => by
    have ih := sum_mod bs k
    by_cases hin : 148 ≤ k ∧ k < 156
    · rw [sumU_in _ _ hin, sumS_in _ _ hin]; omega
    · rw [sumU_out _ _ hin, sumS_out _ _ hin]
      unfold sgn
      split <;> omega
theorem tell_cross (P : List UInt8) (hl : P.length = 512) (p : Nat) (hp : p < 512) (v : UInt8) (hout : ¬ (148 ≤ p ∧ p < 156)) (hne : SU (P.set p v) ≠ SU P) : SS (P.set p v) ≠ SU P := by
  have h1 := sum_mod (P.set p v) 512
  have h2 : SU (P.set p v) = SU P + ((v.toNat : Int) - byt P p) := by
    unfold SU
    rw [sumU_set P p _ (by omega), if_pos ⟨hp, hout⟩]
  have b0 := byt_lo P p
  have b1 := byt_hi P p
  have v1 : (v.toNat : Int) ≤ 255 := by have := v.toNat_lt; omega
  change SS (P.set p v) % 256 = SU (P.set p v) % 256 at h1
  intro h
  omega
theorem ckf_set (P : List UInt8) (p : Nat) (v : UInt8) (hout : ¬ (148 ≤ p ∧ p < 156)) : ckf (P.set p v) = ckf P := by
  apply List.ext_getElem?
  intro j
  unfold ckf
  rw [List.getElem?_take, List.getElem?_take]
  by_cases hj : j < 8
  · rw [if_pos hj, if_pos hj, List.getElem?_drop, List.getElem?_drop, List.getElem?_set_ne (by omega)]
  · rw [if_neg hj, if_neg hj]
theorem BlkOk.no {b : Bool} {P : List UInt8} (h : BlkOk b P) (hl : P.length = 512) {p : Nat} {v : UInt8} (hp : p < 512) (hout : ¬ (148 ≤ p ∧ p < 156)) (hne : SU (P.set p v) ≠ SU P) : CkNo (P.set p v) := by
  intro x ok hR
  rw [ckf_set P p v hout] at hR
  obtain ⟨h1, h2⟩ := h.yes x ok hR
  exact ⟨h1, fun e => hne (e.symm.trans h2), fun e => tell_cross P hl p hp v hout hne (e.symm.trans h2)⟩
end Go.Proofs.YtepeehjajhehfaaGreatDoor
