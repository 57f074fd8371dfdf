/- strconv.FormatInt at base 8, of a number that is not negative. -/
import Derived.Test.YtagjbndcbcepcaaDoorPutO
import Derived.Test.YtagjbndcbcepcaaDoorErr
namespace Go.Proofs.YtagjbndcbcepcaaDoor
open Go.RowKit Go.PlainAid
set_option linter.unusedVariables false

/-- The cell of the table that bits.TrailingZeros(8) reads. -/
def Tz8 (w : World) : Prop := w.cell? ⟨9, 7, none⟩ = some (.int .u8 3)
theorem and8neg : bits .and .u64 8 18446744073709551608 = 8 := by decide
theorem and8_7 : bits .and .i64 8 7 = 0 := by decide
set_option maxHeartbeats 400000 in
set_option maxRecDepth 20000 in
theorem tz64_8 (w : World) (h : Tz8 w) : Calls Tryd.prog 94 #[.int .u64 8] w fun e w' => e = .returned (.int .i64 3) ∧ w = w' := by
  have h7 : w.cell? ⟨9, 7, none⟩ = some (.int .u8 3) := h
  have e1 := and8neg
  have e0 : IntKind.u64.wrap (-8) = 18446744073709551608 := by decide
  have e2 : IntKind.u64.wrap 2286961704410830920 = 2286961704410830920 := by decide
  clear h
  go_enter Tryd.func94, Tryd.ntmps94
  go_wp2
  go_ret
  exact ⟨rfl, rfl⟩
set_option maxHeartbeats 400000 in
set_option maxRecDepth 20000 in
theorem tz_8 (w : World) (h : Tz8 w) : Calls Tryd.prog 89 #[.int .u64 8] w fun e w' => e = .returned (.int .i64 3) ∧ w = w' := by
  have HT := Lib.hid (tz64_8 w h)
  clear h
  go_enter Tryd.func89, Tryd.ntmps89
  go_wp2_with fail
  refine HT.out.mono ?_
  rintro e w1 ⟨rfl, rfl⟩
  go_wp2
  go_ret
  exact ⟨rfl, rfl⟩

theorem Tz8.below {w w' : World} {B : Nat} (h : Tz8 w) (hb : Below B w w') (hB : w.heap.size ≤ B) : Tz8 w' := by
  have hlt : 9 < w.heap.size := lt_of_cell' h
  exact (hb.cell (p := ⟨9, 7, none⟩) (Nat.lt_of_lt_of_le hlt hB)).trans h
set_option maxHeartbeats 400000 in
set_option maxRecDepth 20000 in
theorem isPow8 (w : World) : Calls Tryd.prog 88 #[.int .i64 8] w fun e w' => e = .returned (.bool true) ∧ w = w' := by
  have e87 := and8_7
  go_enter Tryd.func88, Tryd.ntmps88
  go_wp2
  go_ret
  exact ⟨rfl, rfl⟩
theorem zeros65 : Tryd.zeroCells105 = (bys (zbs 65)).toArray := by kernel_rfl
theorem bys_setF (bs : List UInt8) (p : Nat) (v : UInt8) : (bys bs).set p (.int .u8 (v.toNat : Int)) = bys (bs.set p v) := by simp [bys, List.map_set]
theorem fb_set {t : Nat} (n : Int) (h : t < 65) : (zbs (65 - t) ++ od t n).set (64 - t) (dO (n / ((8 ^ t : Nat) : Int))) = zbs (65 - (t + 1)) ++ od (t + 1) n := by
  have := putO_set (D := 65) (t := t) (T := 0) n h
  rw [show zbs 0 = [] from rfl, List.append_nil, List.append_nil] at this
  exact this
theorem rb_mid {w : World} {g : Nat} {t : TypeId} {a b : List UInt8} (h : Blk w g t (bys (a ++ b))) : RB w (g + 1) (some ⟨g, a.length, none⟩) b := by
  intro hpos
  refine ⟨g, a.length, rfl, by omega, fun i hi => ?_⟩
  rw [h.cell, bys_get _ _ (by rw [List.length_append]; omega)]
  have e : byt (a ++ b) (a.length + i) = byt b i := by simp [byt, List.getD, List.getElem?_append_right]
  rw [e]
def FB8P (N : Nat) (w : World) (e : Ending) (w' : World) : Prop := ∃ t, t ≤ 20 ∧ (t = 0 ∨ 8 ^ t ≤ N) ∧ N < 8 ^ (t + 1) ∧ e = .returned (.tuple #[.slice none 0 0, .string (mkS (od (t + 1) (N : Int)))]) ∧ Below w.heap.size w w'
set_option maxHeartbeats 3200000 in
set_option maxRecDepth 20000 in
theorem formatBits8 (N : Nat) (w : World) (hN : N < 9223372036854775808) (hT : Tz8 w) :
    Calls Tryd.prog 74 #[.slice none 0 0, .int .u64 (N : Int), .int .i64 8, .bool false, .bool false] w (FB8P N w) := by
  have HB0 : Hid (Below w.heap.size w (w.alloc (.cells Tryd.zeroCells105 105))) := Lib.hid ((Below.refl _ w).alloc (Nat.le_refl _) _)
  have HT := Lib.hid (hT.below HB0.out (Nat.le_refl _))
  have HA : Hid (Blk (w.alloc (.cells Tryd.zeroCells105 105)) w.heap.size 105 (bys (zbs 65))) := Lib.hid (by rw [zeros65]; exact Blk.new w _ _)
  clear hT
  go_enter Tryd.func74, Tryd.ntmps74
  go_wp2_with fail
  refine (isPow8 _).mono ?_
  rintro e w1 ⟨rfl, rfl⟩
  go_wp2_with fail
  refine (tz_8 _ HT.out).mono ?_
  rintro e w1 ⟨rfl, rfl⟩
  obtain ⟨w1, hw1⟩ : ∃ w1, w1 = w.alloc (.cells Tryd.zeroCells105 105) := ⟨_, rfl⟩
  rw [← hw1] at HB0 HA ⊢
  clear hw1 HT
  go_wp2
  go_loopw [1, 13] (fun v1 v13 wr => ∃ (t q : Nat), t ≤ 64 ∧ v13 = .int .i64 (65 - (t : Int)) ∧ v1 = .int .u64 (q : Int) ∧ q < 9223372036854775808 ∧ Hid ((q : Int) = (N : Int) / ((8 ^ t : Nat) : Int) ∧ (t = 0 ∨ 8 ^ t ≤ N)) ∧ Hid (Blk wr w.heap.size 105 (bys (zbs (65 - t) ++ od t (N : Int)))) ∧ Hid (Below w.heap.size w wr)) (fun v1 _ _ => (intOf v1).toNat)
  case atStart => exact ⟨0, N, by omega, by simp, rfl, hN, Lib.hid ⟨by simp, .inl rfl⟩, Lib.hid (by simpa [od] using HA.out), HB0⟩
  case round =>
    obtain ⟨t, q, ht, rfl, rfl, hq, hQ, hA, hW⟩ := hrel
    by_cases hq8 : 8 ≤ q
    · have htl : t ≤ 20 := by
        rcases hQ.out.2 with h | h
        · omega
        · rcases Nat.lt_or_ge 20 t with h2 | h2
          · exfalso
            have h4 := Nat.pow_le_pow_right (n := 8) (by omega) h2
            have h5 : (8 : Nat) ^ (20 + 1) = 9223372036854775808 := by decide
            omega
          · exact h2
      obtain ⟨j, hj⟩ : ∃ j : Nat, 64 - t = j := ⟨_, rfl⟩
      have hji : (65 : Int) - (t : Int) - 1 = (j : Int) := by omega
      have hj0 : (0 : Int) ≤ (j : Int) := by omega
      have hj65 : (j : Int) < 65 := by omega
      have hq8' : (8 : Int) ≤ (q : Int) := by omega
      obtain ⟨d, hd⟩ : ∃ d : Nat, d = q % 8 := ⟨_, rfl⟩
      have hand : bits .and .u64 (q : Int) 7 = (d : Int) := by
        rw [show (7 : Int) = ((7 : Nat) : Int) from rfl, u64_and_nat q 7 (by omega) (by omega), nat_mask3, hd]
      have hd8 : d < 8 := by omega
      have q0 : wr.cell? ⟨w.heap.size, j, none⟩ = some (.int .u8 (byt (zbs (65 - t) ++ od t (N : Int)) j)) := by rw [hA.out.cell, bys_get _ _ (by rw [List.length_append, length_zbs, od_len]; omega)]
      have q1 := hA.out.frozen j
      have HD := Lib.hid hd
      have HJI := Lib.hid hji
      clear hd
      have hqN : q = N / 8 ^ t := Int.ofNat_inj.1 (by rw [hQ.out.1, ← Int.natCast_ediv])
      have HQ2 : Hid (((q / 8 : Nat) : Int) = (N : Int) / ((8 ^ (t + 1) : Nat) : Int) ∧ (t + 1 = 0 ∨ 8 ^ (t + 1) ≤ N)) := Lib.hid ⟨by rw [← o8_next, ← hQ.out.1, Int.natCast_ediv]; rfl, .inr (by
        rw [Nat.pow_succ, Nat.mul_comm]
        exact (Nat.le_div_iff_mul_le (Nat.pow_pos (by omega))).1 (by rw [← hqN]; exact hq8))⟩
      have HS : Hid (∀ v : Int, v = 48 + (d : Int) → Blk (wr.setCell ⟨w.heap.size, j, none⟩ (.int .u8 v)) w.heap.size 105 (bys (zbs (65 - (t + 1)) ++ od (t + 1) (N : Int)))) := Lib.hid (fun v hv => by
        have h3 := fb_set (t := t) (N : Int) (by omega)
        rw [hj] at h3
        rw [← h3, ← bys_setF, dO_toNat, ← hQ.out.1, hv, show (48 : Int) + (q : Int) % 8 = 48 + (d : Int) by rw [HD.out]; omega]
        exact hA.out.set_ j _)
      have hcase : d = 0 ∨ d = 1 ∨ d = 2 ∨ d = 3 ∨ d = 4 ∨ d = 5 ∨ d = 6 ∨ d = 7 := by omega
      have HCA := Lib.hid hcase
      clear hcase hqN
      go_wp2
      refine ⟨⟨t + 1, q / 8, by omega, by rw [← HJI.out, Int.natCast_add]; exact congrArg _ (by omega), by rw [Int.natCast_ediv]; rfl, by omega, HQ2, Lib.hid (HS.out _ ?_), Lib.hid (hW.out.setCell (Nat.le_refl _) _)⟩, by simp [intOf]; omega⟩
      rcases HCA.out with rfl | rfl | rfl | rfl | rfl | rfl | rfl | rfl <;> rfl
    · have htl : t ≤ 20 := by
        rcases hQ.out.2 with h | h
        · omega
        · rcases Nat.lt_or_ge 20 t with h2 | h2
          · exfalso
            have h4 := Nat.pow_le_pow_right (n := 8) (by omega) h2
            have h5 : (8 : Nat) ^ (20 + 1) = 9223372036854775808 := by decide
            omega
          · exact h2
      obtain ⟨j, hj⟩ : ∃ j : Nat, 64 - t = j := ⟨_, rfl⟩
      have hji : (65 : Int) - (t : Int) - 1 = (j : Int) := by omega
      have hj0 : (0 : Int) ≤ (j : Int) := by omega
      have hj65 : (j : Int) < 65 := by omega
      have hj65' : (j : Int) ≤ 65 := by omega
      have hq8' : ¬ (8 : Int) ≤ (q : Int) := by omega
      have hq8n : q < 8 := by omega
      have q0 : wr.cell? ⟨w.heap.size, j, none⟩ = some (.int .u8 (byt (zbs (65 - t) ++ od t (N : Int)) j)) := by rw [hA.out.cell, bys_get _ _ (by rw [List.length_append, length_zbs, od_len]; omega)]
      have q1 := hA.out.frozen j
      have HJI := Lib.hid hji
      have hqN : q = N / 8 ^ t := Int.ofNat_inj.1 (by rw [hQ.out.1, ← Int.natCast_ediv])
      have HLT : Hid (N < 8 ^ (t + 1)) := Lib.hid (by
        rw [Nat.pow_succ, Nat.mul_comm]
        exact (Nat.div_lt_iff_lt_mul (Nat.pow_pos (by omega))).1 (by rw [← hqN]; exact hq8n))
      have HS : Hid (∀ v : Int, v = 48 + (q : Int) → Blk (wr.setCell ⟨w.heap.size, j, none⟩ (.int .u8 v)) w.heap.size 105 (bys (zbs (65 - (t + 1)) ++ od (t + 1) (N : Int)))) := Lib.hid (fun v hv => by
        have h3 := fb_set (t := t) (N : Int) (by omega)
        rw [hj] at h3
        rw [← h3, ← bys_setF, dO_toNat, ← hQ.out.1, hv, show (48 : Int) + (q : Int) % 8 = 48 + (q : Int) by omega]
        exact hA.out.set_ j _)
      have hcase : q = 0 ∨ q = 1 ∨ q = 2 ∨ q = 3 ∨ q = 4 ∨ q = 5 ∨ q = 6 ∨ q = 7 := by omega
      have HCA := Lib.hid hcase
      have HRB : Hid (∀ v : Int, v = 48 + (q : Int) → RB (wr.setCell ⟨w.heap.size, j, none⟩ (.int .u8 v)) (w.heap.size + 1) (some ⟨w.heap.size, j, none⟩) (od (t + 1) (N : Int))) := Lib.hid (fun v hv => by
        have h3 := rb_mid (HS.out v hv)
        rw [length_zbs, show 65 - (t + 1) = j by omega] at h3
        exact h3)
      have HL : Hid ((od (t + 1) (N : Int)).length = 65 - j) := Lib.hid (by rw [od_len]; omega)
      have HFIN : Hid (t ≤ 20 ∧ (t = 0 ∨ 8 ^ t ≤ N) ∧ N < 8 ^ (t + 1)) := Lib.hid ⟨htl, hQ.out.2, HLT.out⟩
      clear hcase hqN
      go_wp2_with (refine wpList_conv_bytes (o := ⟨some 101, _, _, _, _, _⟩) _ rfl (.tmp 100) 22 9 5 rfl Tryd.underlying22 Tryd.underlying5 Tryd.underlying9 (some ⟨w.heap.size, j, none⟩) (65 - j) (65 - j) (w.heap.size + 1) (od (t + 1) (N : Int)) rfl HL.out (HRB.out _ (by rcases HCA.out with rfl | rfl | rfl | rfl | rfl | rfl | rfl | rfl <;> rfl)) ?_)
      go_ret2
      exact ⟨t, HFIN.out.1, HFIN.out.2.1, HFIN.out.2.2, rfl, hW.out.setCell (Nat.le_refl _) _⟩
end Go.Proofs.YtagjbndcbcepcaaDoor
