/- spec.PutOctal walked. -/
import Derived.Test.YtagjbndcbcepcaaDoorPutO
namespace Go.Proofs.YtagjbndcbcepcaaDoor
open Go.RowKit Go.PlainAid
set_option linter.unusedVariables false

theorem bys_setO (bs : List UInt8) (p : Nat) (v : UInt8) : (bys bs).set p (.int .u8 (v.toNat : Int)) = bys (bs.set p v) := by simp [bys, List.map_set]
/-- A row of bools. -/
def BoolRow (w : World) (B : Nat) (A : Option Addr) (len : Nat) (K : Nat → Bool) : Prop := ∀ i, i < len → ∃ b off, A = some ⟨b, off, none⟩ ∧ b < B ∧ ∀ i, i < len → w.cell? ⟨b, off + i, none⟩ = some (.bool (K i))
theorem BoolRow.below {w w' : World} {B C : Nat} {A : Option Addr} {len : Nat} {K : Nat → Bool} (h : BoolRow w B A len K) (hb : Below C w w') (hB : B ≤ C) : BoolRow w' B A len K := by
  intro i hi
  obtain ⟨b, off, rfl, hlt, hc⟩ := h i hi
  exact ⟨b, off, rfl, hlt, fun i hi => (hb.cell (p := ⟨b, off + i, none⟩) (Nat.lt_of_lt_of_le hlt hB)).trans (hc i hi)⟩
def PutOP (D T : Nat) (n : Int) (w : World) (e : Ending) (w' : World) : Prop := e = .returned (.slice (some ⟨w.heap.size, 0, none⟩) (D + T) (D + T)) ∧ (∃ t : List UInt8, t.length = T ∧ allEnd t ∧ Blk w' w.heap.size 5 (bys (od D n ++ t))) ∧ Below w.heap.size w w'
theorem putO_end {D T : Nat} {n : Int} {t : List UInt8} (ht : t.length = T) (i : Nat) (hi : i < T) : (od D n ++ t).set (D + i) 32 = od D n ++ t.set i 32 := by
  rw [List.set_append_right _ _ (by rw [od_len]; omega), od_len, Nat.add_sub_cancel_left]
set_option maxHeartbeats 3200000 in
set_option maxRecDepth 20000 in
theorem specPutOctal (D T : Nat) (z s n : Int) (A : Option Addr) (len cap : Nat) (K : Nat → Bool) (w : World) (hz : z = (D : Int) + (T : Int)) (hs : s = (T : Int)) (hD : 1 ≤ D) (hm : D + T ≤ 1000) (h1 : 0 ≤ n) (h2 : n ≤ 9223372036854775807)
    (hK : BoolRow w w.heap.size A len K) (hlen : len ≤ 2147483647) (hcap : len ≤ cap) :
    Calls Tryd.prog 13 #[.int .i64 z, .int .i64 s, .int .i64 n, .slice A len cap] w (PutOP D T n w) := by
  subst hz hs
  have HK := Lib.hid hK
  have hz1 : (D : Int) + (T : Int) - (T : Int) = (D : Int) := by omega
  clear hK
  go_enter Tryd.func13, Tryd.ntmps13
  go_wp2_with (refine wpList_make_blk _ (o := ⟨some 13, _, _, _, _, _⟩) rfl _ _ _ rfl 5 _ 1 Tryd.underlying22 u8info rfl _ _ ((D : Int) + (T : Int)) ((D : Int) + (T : Int)) (D + T) rfl rfl (by rw [Int.natCast_add]) (by rw [Int.natCast_add]) (by omega) (by omega) ?_)
  intro w1 b1 g1 z1
  have HB1 : Hid (Blk w1 w.heap.size 5 (bys (zbs (D + T)))) := by rw [bys_zbs]; exact b1
  have HW1 : Hid (Below w.heap.size w w1) := grownBy_below g1 (Nat.le_refl _) (by simp)
  clear b1 g1 z1
  go_wp2
  go_loopw [2, 10] (fun v2 v10 wr => ∃ (t : Nat) (q : Int), t ≤ D ∧ v10 = .int .i64 ((D : Int) - 1 - (t : Int)) ∧ v2 = .int .i64 q ∧ 0 ≤ q ∧ q ≤ 9223372036854775807 ∧ Hid (q = n / ((8 ^ t : Nat) : Int)) ∧ Hid (Blk wr w.heap.size 5 (bys (zbs (D - t) ++ od t n ++ zbs T))) ∧ Hid (Below w.heap.size w wr)) (fun _ v10 _ => (intOf v10 + 1).toNat)
  case atStart => exact ⟨0, n, by omega, by simp, rfl, h1, h2, Lib.hid (by simp), Lib.hid (by have := HB1.out; rw [show zbs (D + T) = zbs (D - 0) ++ od 0 n ++ zbs T by simp [od, zbs]] at this; exact this), HW1⟩
  case round =>
    obtain ⟨t, q, ht, rfl, rfl, hq1, hq2, hQ, hA, hW⟩ := hrel
    by_cases htD : t < D
    · obtain ⟨j, hj⟩ : ∃ j : Nat, D - 1 - t = j := ⟨_, rfl⟩
      have hji : (D : Int) - 1 - (t : Int) = (j : Int) := by omega
      have hj0 : (0 : Int) ≤ (j : Int) := by omega
      have hjm : (j : Int) < (D : Int) + (T : Int) := by omega
      have q0 : wr.cell? ⟨w.heap.size, j, none⟩ = some (.int .u8 (byt (zbs (D - t) ++ od t n ++ zbs T) j)) := by rw [hA.out.cell, bys_get _ _ (by rw [List.length_append, List.length_append, length_zbs, length_zbs, od_len]; omega)]
      have q1 := hA.out.frozen j
      have hand := and7 q hq1 hq2
      have HS : Hid (Blk (wr.setCell ⟨w.heap.size, j, none⟩ (.int .u8 (48 + q % 8))) w.heap.size 5 (bys (zbs (D - (t + 1)) ++ od (t + 1) n ++ zbs T))) := Lib.hid (by
        have h3 := putO_set (D := D) (t := t) (T := T) n htD
        rw [hj] at h3
        rw [← h3, ← bys_setO, dO_toNat, ← hQ.out]
        exact hA.out.set_ j _)
      have HQ2 : Hid (q / 8 = n / ((8 ^ (t + 1) : Nat) : Int)) := Lib.hid (by rw [← o8_next, hQ.out])
      have hb1 : 0 ≤ q / 8 := by omega
      have hb2 : q / 8 ≤ 9223372036854775807 := by omega
      have hjn : (j : Int) - 1 = (D : Int) - 1 - ((t + 1 : Nat) : Int) := by omega
      rw [hji]
      have HJN := Lib.hid hjn
      have HJI := Lib.hid hji
      clear hjn hji
      go_wp2
      go_roundw
      case rel => exact ⟨t + 1, q / 8, by omega, by rw [← HJN.out], rfl, hb1, hb2, HQ2, HS, Lib.hid (hW.out.setCell (Nat.le_refl _) _)⟩
      case measure => simp [intOf] <;> omega
    · obtain rfl : t = D := by omega
      have HA2 : Hid (Blk wr w.heap.size 5 (bys (od t n ++ zbs T))) := Lib.hid (by have := hA.out; rw [Nat.sub_self] at this; exact this)
      have hneg : ¬ (0 : Int) ≤ (t : Int) - 1 - (t : Int) := by omega
      go_wp2
      go_loopw [32] (fun v32 wr => ∃ k : Nat, k ≤ T ∧ v32 = .int .i64 k ∧ Hid (∃ e : List UInt8, e.length = T ∧ allEnd e ∧ Blk wr w.heap.size 5 (bys (od t n ++ e))) ∧ Hid (Below w.heap.size w wr)) (fun v32 _ => T - (intOf v32).toNat)
      case atStart => exact ⟨0, by omega, rfl, Lib.hid ⟨zbs T, length_zbs T, allEnd_zbs T, HA2.out⟩, hW⟩
      case round =>
        obtain ⟨k, hk, rfl, hB, hW⟩ := hrel
        by_cases hkT : k < T
        · have hkT' : (k : Int) < (T : Int) := by omega
          by_cases hkl : k < len
          · have hkl' : (k : Int) < (len : Int) := by omega
            obtain ⟨kb, ko, rfl, hkb, hkc⟩ := HK.out k hkl
            have hcell : wr.cell? ⟨kb, ko + k, none⟩ = some (.bool (K k)) := (hW.out.cell (p := ⟨kb, ko + k, none⟩) hkb).trans (hkc k hkl)
            clear hkc
            obtain ⟨x, hx⟩ : ∃ x, x = K k := ⟨_, rfl⟩
            rw [← hx] at hcell
            clear hx
            cases x with
            | true =>
              obtain ⟨e, he1, he2, he3⟩ := hB.out
              have q0 : wr.cell? ⟨w.heap.size, t + k, none⟩ = some (.int .u8 (byt (od t n ++ e) (t + k))) := by rw [he3.cell, bys_get _ _ (by rw [List.length_append, od_len]; omega)]
              have q1 := he3.frozen (t + k)
              have hlo : (0 : Int) ≤ (t : Int) + (k : Int) := by omega
              have hhi : (t : Int) + (k : Int) < (t : Int) + (T : Int) := by omega
              have HS : Hid (∃ e : List UInt8, e.length = T ∧ allEnd e ∧ Blk (wr.setCell ⟨w.heap.size, t + k, none⟩ (.int .u8 32)) w.heap.size 5 (bys (od t n ++ e))) := Lib.hid ⟨e.set k 32, by rw [List.length_set]; exact he1, allEnd_set he2 k, by
                rw [← putO_end he1 k hkT, ← bys_setO]
                exact he3.set_ (t + k) _⟩
              clear he1 he2 he3
              go_wp2
              go_roundw
              case rel => exact ⟨k + 1, by omega, by go_num, HS, Lib.hid (hW.out.setCell (Nat.le_refl _) _)⟩
              case measure => simp [intOf] <;> omega
            | false =>
              go_wp2
              go_roundw
              case rel => exact ⟨k + 1, by omega, by go_num, hB, hW⟩
              case measure => simp [intOf] <;> omega
          · have hkl' : ¬ (k : Int) < (len : Int) := by omega
            go_wp2
            go_roundw
            case rel => exact ⟨k + 1, by omega, by go_num, hB, hW⟩
            case measure => simp [intOf] <;> omega
        · have hkT' : ¬ (k : Int) < (T : Int) := by omega
          go_wp2
          go_ret
          exact ⟨rfl, hB.out, hW.out⟩
end Go.Proofs.YtagjbndcbcepcaaDoor
