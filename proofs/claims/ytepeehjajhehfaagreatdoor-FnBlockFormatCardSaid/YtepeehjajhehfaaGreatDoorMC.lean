/- spec.PutOctal. spec.PutOctal walked. Numbers in base 256: plain words. Which numbers fit a field in base 256. spec.PutBytes. spec.PutBytes: its walk (for seats without the numbers' own texts). -/
import Derived.Test.YtepeehjajhehfaaGreatDoorMB
import Derived.Laws.BitsAllLaws
import Derived.Test.YtepeehjajhehfaaGreatDoorO
import Derived.Test.YtepeehjajhehfaaGreatDoorFar
import Derived.Test.YtepeehjajhehfaaGreatDoorText
namespace Go.Proofs.YtepeehjajhehfaaGreatDoor
open Go.RowKit Go.PlainAid
set_option linter.unusedVariables false

def dO (x : Int) : UInt8 := UInt8.ofNat (48 + (x % 8).toNat)
theorem dO_toNat (x : Int) : ((dO x).toNat : Int) = 48 + x % 8 := by
  unfold dO
  rw [UInt8.toNat_ofNat']
  omega
theorem dO_d8 (x : Int) : d8 (dO x) := by
  have := dO_toNat x
  unfold d8
  omega
/-- The last t octal digits of a number, the highest one first. -/
def od : Nat → Int → List UInt8
  | 0, _ => []
  | t + 1, n => dO (n / ((8 ^ t : Nat) : Int)) :: od t n
theorem od_len : ∀ (t : Nat) (n : Int), (od t n).length = t
  | 0, _ => rfl
  | t + 1, n => by simp [od, od_len t n]
theorem od_all8 : ∀ (t : Nat) (n : Int), all8 (od t n)
  | 0, _ => fun c hc => by simp [od] at hc
  | t + 1, n => all8_cons.2 ⟨dO_d8 _, od_all8 t n⟩
theorem od_v8 (N : Nat) : ∀ (t acc : Nat), v8 acc (od t (N : Int)) = acc * 8 ^ t + N % 8 ^ t
  | 0, acc => by simp [od, v8, Nat.mod_one]
  | t + 1, acc => by
    have e : (dO ((N : Int) / ((8 ^ t : Nat) : Int))).toNat - 48 = N / 8 ^ t % 8 := by
      have := dO_toNat ((N : Int) / ((8 ^ t : Nat) : Int))
      rw [← Int.natCast_ediv] at this ⊢
      generalize N / 8 ^ t = q at *
      omega
    rw [od, v8_cons, od_v8 N t, e, Nat.pow_succ, Nat.mod_mul, Nat.add_mul, Nat.mul_assoc, Nat.mul_comm 8, Nat.mul_comm (N / 8 ^ t % 8)]
    omega
theorem fitsO_pos {j : Nat} {n : Int} (h : fitsO j n = true) : 0 ≤ n ∧ n < ((8 ^ j : Nat) : Int) := by
  unfold fitsO at h
  simpa using h
/-- Digits and what ends them: read as the documents say. -/
theorem octR_field {D : Nat} {n y : Int} {ok : Bool} {e : List UInt8} (hD : 1 ≤ D) (hD2 : D ≤ 21) (hf : fitsO D n = true) (he : e ≠ []) (hE : allEnd e) (hR : OctR (od D n ++ e) y ok) : ok = true ∧ y = n := by
  obtain ⟨h0, h1⟩ := fitsO_pos hf
  obtain ⟨N, rfl⟩ : ∃ N : Nat, n = (N : Int) := ⟨n.toNat, by omega⟩
  have hv := od_v8 N D 0
  have hlt : N < 8 ^ D := Int.ofNat_lt.1 h1
  rw [Nat.mod_eq_of_lt hlt, Nat.zero_mul, Nat.zero_add] at hv
  have hne : od D (N : Int) ≠ [] := fun h => by
    have := congrArg List.length h
    rw [od_len, List.length_nil] at this
    omega
  rcases octR_of_octS (x := ((v8 0 (od D (N : Int)) : Nat) : Int)) (v := 1) (.inr (.inr ⟨rfl, _, e, rfl, od_all8 _ _, hne, by rw [od_len]; exact hD2, he, hE, rfl⟩)) hR with h | ⟨h, _⟩ | ⟨_, h, h'⟩
  · omega
  · omega
  · exact ⟨h, by rw [h', hv]⟩
theorem and7 (q : Int) (h : 0 ≤ q) (h2 : q ≤ 9223372036854775807) : bits .and .i64 q 7 = q % 8 := by
  obtain ⟨Q, rfl⟩ : ∃ Q : Nat, q = (Q : Int) := ⟨q.toNat, by omega⟩
  show IntKind.i64.wrap ((BitVec.ofInt 64 (Q : Int) &&& BitVec.ofInt 64 ((7 : Nat) : Int)).toNat : Int) = _
  rw [BitVec.toNat_and, ofInt_u64 Q (by omega), ofInt_u64 7 (by omega), nat_mask3, IntKind.wrap_i64]
  omega
theorem putO_set {D t T : Nat} (n : Int) (h : t < D) : (zbs (D - t) ++ od t n ++ zbs T).set (D - 1 - t) (dO (n / ((8 ^ t : Nat) : Int))) = zbs (D - (t + 1)) ++ od (t + 1) n ++ zbs T := by
  obtain ⟨k, hk⟩ : ∃ k, D - t = k + 1 := ⟨D - t - 1, by omega⟩
  rw [hk, show D - (t + 1) = k by omega, show D - 1 - t = k by omega, List.append_assoc, List.set_append_left _ _ (by rw [length_zbs]; omega)]
  have e : (zbs (k + 1)).set k (dO (n / ((8 ^ t : Nat) : Int))) = zbs k ++ [dO (n / ((8 ^ t : Nat) : Int))] := by
    have e2 : zbs (k + 1) = zbs k ++ [0] := by unfold zbs; rw [List.replicate_succ']
    rw [e2, List.set_append_right _ _ (by rw [length_zbs]; omega), length_zbs, Nat.sub_self]
    rfl
  rw [e, od, List.append_assoc, List.append_assoc]
  rfl
theorem allEnd_zbs (T : Nat) : allEnd (zbs T) := fun c hc => .inr (by unfold zbs at hc; exact (List.mem_replicate.1 hc).2)
theorem allEnd_set {e : List UInt8} (h : allEnd e) (i : Nat) : allEnd (e.set i 32) := fun c hc => by
  rcases List.mem_or_eq_of_mem_set hc with h1 | h1
  · exact h c h1
  · exact .inl h1
end Go.Proofs.YtepeehjajhehfaaGreatDoor
namespace Go.Proofs.YtepeehjajhehfaaGreatDoor
open Go.RowKit Go.PlainAid
set_option linter.unusedVariables false

theorem bys_setO (bs : List UInt8) (p : Nat) (v : UInt8) : (bys bs).set p (.int .u8 (v.toNat : Int)) = bys (bs.set p v) := by simp [bys, List.map_set]
/-- A row of bools. -/
def BoolRow (w : World) (B : Nat) (A : Option Addr) (len : Nat) (K : Nat → Bool) : Prop := ∀ i, i < len → ∃ b off, A = some ⟨b, off, none⟩ ∧ b < B ∧ ∀ i, i < len → w.cell? ⟨b, off + i, none⟩ = some (.bool (K i))
theorem BoolRow.below {w w' : World} {B C : Nat} {A : Option Addr} {len : Nat} {K : Nat → Bool} (h : BoolRow w B A len K) (hb : Below C w w') (hB : B ≤ C) : BoolRow w' B A len K := by
  intro i hi
  obtain ⟨b, off, rfl, hlt, hc⟩ := h i hi
  exact ⟨b, off, rfl, hlt, fun i hi => (hb.cell (p := ⟨b, off + i, none⟩) (Nat.lt_of_lt_of_le hlt hB)).trans (hc i hi)⟩
def PutOP (D T : Nat) (n : Int) (w : World) (e : Ending) (w' : World) : Prop := e = .returned (.slice (some ⟨w.heap.size, 0, none⟩) (D + T) (D + T)) ∧ (∃ t : List UInt8, t.length = T ∧ allEnd t ∧ Blk w' w.heap.size 5 (bys (od D n ++ t))) ∧ Below w.heap.size w w'
theorem putO_end {D T : Nat} {n : Int} {t : List UInt8} (ht : t.length = T) (i : Nat) (hi : i < T) : (od D n ++ t).set (D + i) 32 = od D n ++ t.set i 32 := by
  rw [List.set_append_right _ _ (by rw [od_len]; omega), od_len, Nat.add_sub_cancel_left]
set_option maxHeartbeats 3200000 in
set_option maxRecDepth 20000 in
theorem specPutOctal (D T : Nat) (z s n : Int) (A : Option Addr) (len cap : Nat) (K : Nat → Bool) (w : World) (hz : z = (D : Int) + (T : Int)) (hs : s = (T : Int)) (hD : 1 ≤ D) (hm : D + T ≤ 1000) (h1 : 0 ≤ n) (h2 : n ≤ 9223372036854775807)
    (hK : BoolRow w w.heap.size A len K) (hlen : len ≤ 2147483647) (hcap : len ≤ cap) :
    Calls Tryz.prog 61 #[.int .i64 z, .int .i64 s, .int .i64 n, .slice A len cap] w (PutOP D T n w) := by
  subst hz hs
  have HK := Lib.hid hK
  have hz1 : (D : Int) + (T : Int) - (T : Int) = (D : Int) := by omega
  clear hK
  go_enter Tryz.func61, Tryz.ntmps61
  go_wp2_with (refine wpList_make_blk _ (o := ⟨some 13, _, _, _, _, _⟩) rfl _ _ _ rfl 5 _ 1 Tryz.underlying35 u8info rfl _ _ ((D : Int) + (T : Int)) ((D : Int) + (T : Int)) (D + T) rfl rfl (by rw [Int.natCast_add]) (by rw [Int.natCast_add]) (by omega) (by omega) ?_)
  intro w1 b1 g1 z1
  have HB1 : Hid (Blk w1 w.heap.size 5 (bys (zbs (D + T)))) := by rw [bys_zbs]; exact b1
  have HW1 : Hid (Below w.heap.size w w1) := grownBy_below g1 (Nat.le_refl _) (by simp)
  clear b1 g1 z1
  go_wp2
  go_loopw [2, 10] (fun v2 v10 wr => ∃ (t : Nat) (q : Int), t ≤ D ∧ v10 = .int .i64 ((D : Int) - 1 - (t : Int)) ∧ v2 = .int .i64 q ∧ 0 ≤ q ∧ q ≤ 9223372036854775807 ∧ Hid (q = n / ((8 ^ t : Nat) : Int)) ∧ Hid (Blk wr w.heap.size 5 (bys (zbs (D - t) ++ od t n ++ zbs T))) ∧ Hid (Below w.heap.size w wr)) (fun _ v10 _ => (intOf v10 + 1).toNat)
  case atStart => exact ⟨0, n, by omega, by simp, rfl, h1, h2, Lib.hid (by simp), Lib.hid (by have := HB1.out; rw [show zbs (D + T) = zbs (D - 0) ++ od 0 n ++ zbs T by simp [od, zbs]] at this; exact this), HW1⟩
  case round =>
    obtain ⟨t, q, ht, rfl, rfl, hq1, hq2, hQ, hA, hW⟩ := hrel
    by_cases htD : t < D
    · obtain ⟨j, hj⟩ : ∃ j : Nat, D - 1 - t = j := ⟨_, rfl⟩
      have hji : (D : Int) - 1 - (t : Int) = (j : Int) := by omega
      have hj0 : (0 : Int) ≤ (j : Int) := by omega
      have hjm : (j : Int) < (D : Int) + (T : Int) := by omega
      have q0 : wr.cell? ⟨w.heap.size, j, none⟩ = some (.int .u8 (byt (zbs (D - t) ++ od t n ++ zbs T) j)) := by rw [hA.out.cell, bys_get _ _ (by rw [List.length_append, List.length_append, length_zbs, length_zbs, od_len]; omega)]
      have q1 := hA.out.frozen j
      have hand := and7 q hq1 hq2
      have HS : Hid (Blk (wr.setCell ⟨w.heap.size, j, none⟩ (.int .u8 (48 + q % 8))) w.heap.size 5 (bys (zbs (D - (t + 1)) ++ od (t + 1) n ++ zbs T))) := Lib.hid (by
        have h3 := putO_set (D := D) (t := t) (T := T) n htD
        rw [hj] at h3
        rw [← h3, ← bys_setO, dO_toNat, ← hQ.out]
        exact hA.out.set_ j _)
      have HQ2 : Hid (q / 8 = n / ((8 ^ (t + 1) : Nat) : Int)) := Lib.hid (by rw [← o8_next, hQ.out])
      have hb1 : 0 ≤ q / 8 := by omega
      have hb2 : q / 8 ≤ 9223372036854775807 := by omega
      have hjn : (j : Int) - 1 = (D : Int) - 1 - ((t + 1 : Nat) : Int) := by omega
      rw [hji]
      have HJN := Lib.hid hjn
      have HJI := Lib.hid hji
      clear hjn hji
      go_wp2
      go_roundw
      case rel => exact ⟨t + 1, q / 8, by omega, by rw [← HJN.out], rfl, hb1, hb2, HQ2, HS, Lib.hid (hW.out.setCell (Nat.le_refl _) _)⟩
      case measure => simp [intOf] <;> omega
    · obtain rfl : t = D := by omega
      have HA2 : Hid (Blk wr w.heap.size 5 (bys (od t n ++ zbs T))) := Lib.hid (by have := hA.out; rw [Nat.sub_self] at this; exact this)
      have hneg : ¬ (0 : Int) ≤ (t : Int) - 1 - (t : Int) := by omega
      go_wp2
      go_loopw [32] (fun v32 wr => ∃ k : Nat, k ≤ T ∧ v32 = .int .i64 k ∧ Hid (∃ e : List UInt8, e.length = T ∧ allEnd e ∧ Blk wr w.heap.size 5 (bys (od t n ++ e))) ∧ Hid (Below w.heap.size w wr)) (fun v32 _ => T - (intOf v32).toNat)
      case atStart => exact ⟨0, by omega, rfl, Lib.hid ⟨zbs T, length_zbs T, allEnd_zbs T, HA2.out⟩, hW⟩
      case round =>
        obtain ⟨k, hk, rfl, hB, hW⟩ := hrel
        by_cases hkT : k < T
        · have hkT' : (k : Int) < (T : Int) := by omega
          by_cases hkl : k < len
          · have hkl' : (k : Int) < (len : Int) := by omega
            obtain ⟨kb, ko, rfl, hkb, hkc⟩ := HK.out k hkl
            have hcell : wr.cell? ⟨kb, ko + k, none⟩ = some (.bool (K k)) := (hW.out.cell (p := ⟨kb, ko + k, none⟩) hkb).trans (hkc k hkl)
            clear hkc
            obtain ⟨x, hx⟩ : ∃ x, x = K k := ⟨_, rfl⟩
            rw [← hx] at hcell
            clear hx
            cases x with
            | true =>
              obtain ⟨e, he1, he2, he3⟩ := hB.out
              have q0 : wr.cell? ⟨w.heap.size, t + k, none⟩ = some (.int .u8 (byt (od t n ++ e) (t + k))) := by rw [he3.cell, bys_get _ _ (by rw [List.length_append, od_len]; omega)]
              have q1 := he3.frozen (t + k)
              have hlo : (0 : Int) ≤ (t : Int) + (k : Int) := by omega
              have hhi : (t : Int) + (k : Int) < (t : Int) + (T : Int) := by omega
              have HS : Hid (∃ e : List UInt8, e.length = T ∧ allEnd e ∧ Blk (wr.setCell ⟨w.heap.size, t + k, none⟩ (.int .u8 32)) w.heap.size 5 (bys (od t n ++ e))) := Lib.hid ⟨e.set k 32, by rw [List.length_set]; exact he1, allEnd_set he2 k, by
                rw [← putO_end he1 k hkT, ← bys_setO]
                exact he3.set_ (t + k) _⟩
              clear he1 he2 he3
              go_wp2
              go_roundw
              case rel => exact ⟨k + 1, by omega, by go_num, HS, Lib.hid (hW.out.setCell (Nat.le_refl _) _)⟩
              case measure => simp [intOf] <;> omega
            | false =>
              go_wp2
              go_roundw
              case rel => exact ⟨k + 1, by omega, by go_num, hB, hW⟩
              case measure => simp [intOf] <;> omega
          · have hkl' : ¬ (k : Int) < (len : Int) := by omega
            go_wp2
            go_roundw
            case rel => exact ⟨k + 1, by omega, by go_num, hB, hW⟩
            case measure => simp [intOf] <;> omega
        · have hkT' : ¬ (k : Int) < (T : Int) := by omega
          go_wp2
          go_ret
          exact ⟨rfl, hB.out, hW.out⟩
end Go.Proofs.YtepeehjajhehfaaGreatDoor
namespace Go.Proofs.YtepeehjajhehfaaGreatDoor
open Go.RowKit Go.PlainAid
set_option linter.unusedVariables false

/-- A byte as it counts in a number in base 256: turned over in a negative one. -/
def msk (neg : Bool) (c : UInt8) : Nat := if neg then 255 - c.toNat else c.toNat
theorem msk_lt (neg : Bool) (c : UInt8) : msk neg c < 256 := by
  have := c.toNat_lt
  unfold msk
  split <;> omega
def fillB (neg : Bool) : Nat := if neg then 255 else 0
theorem xor255 : ∀ c : Fin 256, (c.val ^^^ 255) = 255 - c.val := by decide +kernel
theorem xor_msk (neg : Bool) (c : UInt8) : bits .xor .u8 (c.toNat : Int) (fillB neg : Nat) = (msk neg c : Nat) := by
  have hc : c.toNat < 256 := c.toNat_lt
  cases neg with
  | true =>
    rw [u8_xor_nat _ _ hc (by decide)]
    exact congrArg _ (xor255 ⟨c.toNat, hc⟩)
  | false =>
    rw [u8_xor_nat _ _ hc (by decide)]
    exact congrArg _ (Nat.xor_zero _)
theorem and127 (d : Nat) (h : d < 256) : bits .and .u8 (d : Int) 127 = ((d % 128 : Nat) : Int) := by
  rw [show (127 : Int) = ((127 : Nat) : Int) from rfl, u8_and_nat d 127 h (by decide), nat_mask7]
theorem and128 (c : UInt8) : bits .and .u8 (c.toNat : Int) 128 = ((c.toNat / 128 * 128 : Nat) : Int) := by
  have hc : c.toNat < 256 := c.toNat_lt
  have e := nat_bit 7 c.toNat
  rw [show (2 : Nat) ^ 7 = 128 from rfl] at e
  rw [show (128 : Int) = ((128 : Nat) : Int) from rfl, u8_and_nat _ 128 hc (by decide), e, Nat.mod_eq_of_lt (by omega)]
theorem and64 (c : UInt8) (h : 128 ≤ c.toNat) : bits .and .u8 (c.toNat : Int) 64 = if 192 ≤ c.toNat then 64 else 0 := by
  have hc : c.toNat < 256 := c.toNat_lt
  have e := nat_bit 6 c.toNat
  rw [show (2 : Nat) ^ 6 = 64 from rfl] at e
  rw [show (64 : Int) = ((64 : Nat) : Int) from rfl, u8_and_nat _ 64 hc (by decide), e]
  split
  · rw [show c.toNat / 64 % 2 = 1 by omega, Nat.one_mul]
  · rw [show c.toNat / 64 % 2 = 0 by omega, Nat.zero_mul]; rfl
set_option maxRecDepth 20000 in
theorem or_u64 (U d : Nat) (hU : U * 256 + 255 < 18446744073709551616) (hd : d < 256) : bits .or .u64 ((U : Int) * 256) (d : Int) = ((U * 256 + d : Nat) : Int) := by
  rw [show (U : Int) * 256 = ((U * 256 : Nat) : Int) by omega, u64_or_nat _ _ (by omega) (by omega), nat_join 8 (U * 256) d (by rw [show (2 : Nat) ^ 8 = 256 from rfl]; omega) (by rw [show (2 : Nat) ^ 8 = 256 from rfl]; omega)]
/-- The like of two whole numbers, the first one of either sign. -/
theorem or_i64 (q : Int) (d : Nat) (h1 : -9223372036854775808 ≤ q * 256) (h2 : q * 256 + 255 ≤ 9223372036854775807) (hd : d < 256) : bits .or .i64 (q * 256) (d : Int) = q * 256 + d := by
  show IntKind.i64.wrap ((BitVec.ofInt 64 (q * 256) ||| BitVec.ofInt 64 (d : Int)).toNat : Int) = _
  have e1 : (BitVec.ofInt 64 (q * 256)).toNat = (q * 256 % 18446744073709551616).toNat := by rw [BitVec.toNat_ofInt]; rfl
  have e2 : (BitVec.ofInt 64 (d : Int)).toNat = d := ofInt_u64 d (by omega)
  obtain ⟨m, hm⟩ : ∃ m, m = (q * 256 % 18446744073709551616).toNat := ⟨_, rfl⟩
  have hm2 : m % 256 = 0 := by omega
  rw [BitVec.toNat_or, e1, e2, ← hm, nat_join 8 m d (by rw [show (2 : Nat) ^ 8 = 256 from rfl]; omega) (by rw [show (2 : Nat) ^ 8 = 256 from rfl]; omega), IntKind.wrap_i64]
  omega

def bn (acc : Nat) (l : List Nat) : Nat := l.foldl (fun a d => a * 256 + d) acc
theorem bn_cons (acc d : Nat) (l : List Nat) : bn acc (d :: l) = bn (acc * 256 + d) l := by unfold bn; rw [List.foldl_cons]
theorem bn_snoc (acc d : Nat) (l : List Nat) : bn acc (l ++ [d]) = bn acc l * 256 + d := by simp [bn]
theorem bn_app (acc : Nat) (a b : List Nat) : bn acc (a ++ b) = bn (bn acc a) b := by simp [bn]
theorem bn_ge : ∀ (l : List Nat) (acc : Nat), acc ≤ bn acc l
  | [], acc => Nat.le_refl _
  | d :: l, acc => by
    have := bn_ge l (acc * 256 + d)
    rw [bn_cons]
    omega
theorem bn_grow {l : List Nat} {acc : Nat} (h : l ≠ []) : acc * 256 ≤ bn acc l := by
  cases l with
  | nil => exact absurd rfl h
  | cons d l =>
    rw [bn_cons]
    exact Nat.le_trans (Nat.le_add_right _ _) (bn_ge l (acc * 256 + d))
theorem bn_take {l : List Nat} {k d : Nat} (h : l[k]? = some d) : bn 0 (l.take (k + 1)) = bn 0 (l.take k) * 256 + d := by
  obtain ⟨hl, e⟩ := List.getElem?_eq_some_iff.1 h
  rw [List.take_succ_eq_append_getElem hl, e, bn_snoc]
theorem bn_over {l : List Nat} {k : Nat} (h : k < l.length) (hU : 72057594037927936 ≤ bn 0 (l.take k)) : 9223372036854775808 ≤ bn 0 l := by
  have e : bn 0 l = bn (bn 0 (l.take k)) (l.drop k) := by rw [← bn_app, List.take_append_drop]
  have h2 : l.drop k ≠ [] := fun e => by
    have := congrArg List.length e
    rw [List.length_drop, List.length_nil] at this
    omega
  have := bn_grow (acc := bn 0 (l.take k)) h2
  omega

/-- The digits of a number in base 256 of a field. -/
def digs (neg : Bool) (c : UInt8) (r : List UInt8) : List Nat := (msk neg c % 128) :: r.map (msk neg)
theorem digs_len (neg : Bool) (c : UInt8) (r : List UInt8) : (digs neg c r).length = r.length + 1 := by simp [digs]
theorem digs_0 (neg : Bool) (c : UInt8) (r : List UInt8) : (digs neg c r)[0]? = some (msk neg c % 128) := rfl
theorem digs_at {neg : Bool} {c x : UInt8} {r : List UInt8} {k : Nat} (hk : k ≠ 0) (h : (c :: r)[k]? = some x) : (digs neg c r)[k]? = some (msk neg x) := by
  obtain ⟨m, rfl⟩ : ∃ m, k = m + 1 := ⟨k - 1, by omega⟩
  have h' : r[m]? = some x := by simpa using h
  show (r.map (msk neg))[m]? = _
  rw [List.getElem?_map, h']
  rfl
def negOf (c : UInt8) : Bool := decide (192 ≤ c.toNat)
/-- The number of digits U, with its sign. -/
def sg (neg : Bool) (U : Nat) : Int := if neg then -1 - U else U
/-- What is read of a field whose first byte is not below 128. -/
def BinR (c : UInt8) (r : List UInt8) (y : Int) (ok : Bool) : Prop :=
  (bn 0 (digs (negOf c) c r) < 9223372036854775808 ∧ ok = true ∧ y = sg (negOf c) (bn 0 (digs (negOf c) c r))) ∨ (9223372036854775808 ≤ bn 0 (digs (negOf c) c r) ∧ ok = false)
end Go.Proofs.YtepeehjajhehfaaGreatDoor
namespace Go.Proofs.YtepeehjajhehfaaGreatDoor
open Go.RowKit Go.PlainAid
set_option linter.unusedVariables false

/-- Whether so many bytes have room for a number and its sign. -/
def fitsB (j : Nat) (n : Int) : Bool := decide (8 ≤ j) || (decide (-((256 ^ j : Nat) : Int) ≤ n) && decide (n < ((256 ^ j : Nat) : Int)))
def FitP (j : Nat) (n : Int) (w : World) (e : Ending) (w' : World) : Prop := e = .returned (.bool (fitsB j n)) ∧ w = w'
theorem fitsB_big {j : Nat} (n : Int) (h : 8 ≤ j) : fitsB j n = true := by simp [fitsB, h]
theorem fitsB_yes {j : Nat} {n : Int} {p : Int} (hp : ((256 ^ j : Nat) : Int) = p) (h1 : -p ≤ n) (h2 : n < p) : fitsB j n = true := by simp [fitsB, hp, h1, h2]
theorem fitsB_no {j : Nat} {n : Int} {p : Int} (hp : ((256 ^ j : Nat) : Int) = p) (hj : j < 8) (h : ¬ (-p ≤ n ∧ n < p)) : fitsB j n = false := by
  unfold fitsB
  rw [hp, decide_eq_false (by omega : ¬ 8 ≤ j)]
  simp only [Bool.false_or, Bool.and_eq_false_iff, decide_eq_false_iff_not]
  omega

set_option maxHeartbeats 400000 in
set_option maxRecDepth 20000 in
theorem fits256_0 (n : Int) (w : World) (h1 : -9223372036854775808 ≤ n) (h2 : n ≤ 9223372036854775807) : Calls Tryz.prog 77 #[.int .i64 2, .int .i64 n] w (FitP 1 n w) := by
  by_cases c1 : -256 ≤ n
  · by_cases c2 : n < 256
    · have HB := Lib.hid (fitsB_yes (j := 1) (n := n) (p := 256) (by decide) c1 c2)
      go_enter Tryz.func77, Tryz.ntmps77
      go_wp2
      go_ret
      exact ⟨by rw [HB.out]; rfl, rfl⟩
    · have HB := Lib.hid (fitsB_no (j := 1) (n := n) (p := 256) (by decide) (by omega) (by omega))
      go_enter Tryz.func77, Tryz.ntmps77
      go_wp2
      go_ret
      exact ⟨by rw [HB.out]; rfl, rfl⟩
  · have HB := Lib.hid (fitsB_no (j := 1) (n := n) (p := 256) (by decide) (by omega) (by omega))
    go_enter Tryz.func77, Tryz.ntmps77
    go_wp2
    go_ret
    exact ⟨by rw [HB.out]; rfl, rfl⟩

set_option maxHeartbeats 400000 in
set_option maxRecDepth 20000 in
theorem fits256_1 (n : Int) (w : World) (h1 : -9223372036854775808 ≤ n) (h2 : n ≤ 9223372036854775807) : Calls Tryz.prog 77 #[.int .i64 3, .int .i64 n] w (FitP 2 n w) := by
  by_cases c1 : -65536 ≤ n
  · by_cases c2 : n < 65536
    · have HB := Lib.hid (fitsB_yes (j := 2) (n := n) (p := 65536) (by decide) c1 c2)
      go_enter Tryz.func77, Tryz.ntmps77
      go_wp2
      go_ret
      exact ⟨by rw [HB.out]; rfl, rfl⟩
    · have HB := Lib.hid (fitsB_no (j := 2) (n := n) (p := 65536) (by decide) (by omega) (by omega))
      go_enter Tryz.func77, Tryz.ntmps77
      go_wp2
      go_ret
      exact ⟨by rw [HB.out]; rfl, rfl⟩
  · have HB := Lib.hid (fitsB_no (j := 2) (n := n) (p := 65536) (by decide) (by omega) (by omega))
    go_enter Tryz.func77, Tryz.ntmps77
    go_wp2
    go_ret
    exact ⟨by rw [HB.out]; rfl, rfl⟩

set_option maxHeartbeats 400000 in
set_option maxRecDepth 20000 in
theorem fits256_2 (n : Int) (w : World) (h1 : -9223372036854775808 ≤ n) (h2 : n ≤ 9223372036854775807) : Calls Tryz.prog 77 #[.int .i64 4, .int .i64 n] w (FitP 3 n w) := by
  by_cases c1 : -16777216 ≤ n
  · by_cases c2 : n < 16777216
    · have HB := Lib.hid (fitsB_yes (j := 3) (n := n) (p := 16777216) (by decide) c1 c2)
      go_enter Tryz.func77, Tryz.ntmps77
      go_wp2
      go_ret
      exact ⟨by rw [HB.out]; rfl, rfl⟩
    · have HB := Lib.hid (fitsB_no (j := 3) (n := n) (p := 16777216) (by decide) (by omega) (by omega))
      go_enter Tryz.func77, Tryz.ntmps77
      go_wp2
      go_ret
      exact ⟨by rw [HB.out]; rfl, rfl⟩
  · have HB := Lib.hid (fitsB_no (j := 3) (n := n) (p := 16777216) (by decide) (by omega) (by omega))
    go_enter Tryz.func77, Tryz.ntmps77
    go_wp2
    go_ret
    exact ⟨by rw [HB.out]; rfl, rfl⟩

set_option maxHeartbeats 400000 in
set_option maxRecDepth 20000 in
theorem fits256_3 (n : Int) (w : World) (h1 : -9223372036854775808 ≤ n) (h2 : n ≤ 9223372036854775807) : Calls Tryz.prog 77 #[.int .i64 5, .int .i64 n] w (FitP 4 n w) := by
  by_cases c1 : -4294967296 ≤ n
  · by_cases c2 : n < 4294967296
    · have HB := Lib.hid (fitsB_yes (j := 4) (n := n) (p := 4294967296) (by decide) c1 c2)
      go_enter Tryz.func77, Tryz.ntmps77
      go_wp2
      go_ret
      exact ⟨by rw [HB.out]; rfl, rfl⟩
    · have HB := Lib.hid (fitsB_no (j := 4) (n := n) (p := 4294967296) (by decide) (by omega) (by omega))
      go_enter Tryz.func77, Tryz.ntmps77
      go_wp2
      go_ret
      exact ⟨by rw [HB.out]; rfl, rfl⟩
  · have HB := Lib.hid (fitsB_no (j := 4) (n := n) (p := 4294967296) (by decide) (by omega) (by omega))
    go_enter Tryz.func77, Tryz.ntmps77
    go_wp2
    go_ret
    exact ⟨by rw [HB.out]; rfl, rfl⟩

set_option maxHeartbeats 400000 in
set_option maxRecDepth 20000 in
theorem fits256_4 (n : Int) (w : World) (h1 : -9223372036854775808 ≤ n) (h2 : n ≤ 9223372036854775807) : Calls Tryz.prog 77 #[.int .i64 6, .int .i64 n] w (FitP 5 n w) := by
  by_cases c1 : -1099511627776 ≤ n
  · by_cases c2 : n < 1099511627776
    · have HB := Lib.hid (fitsB_yes (j := 5) (n := n) (p := 1099511627776) (by decide) c1 c2)
      go_enter Tryz.func77, Tryz.ntmps77
      go_wp2
      go_ret
      exact ⟨by rw [HB.out]; rfl, rfl⟩
    · have HB := Lib.hid (fitsB_no (j := 5) (n := n) (p := 1099511627776) (by decide) (by omega) (by omega))
      go_enter Tryz.func77, Tryz.ntmps77
      go_wp2
      go_ret
      exact ⟨by rw [HB.out]; rfl, rfl⟩
  · have HB := Lib.hid (fitsB_no (j := 5) (n := n) (p := 1099511627776) (by decide) (by omega) (by omega))
    go_enter Tryz.func77, Tryz.ntmps77
    go_wp2
    go_ret
    exact ⟨by rw [HB.out]; rfl, rfl⟩

set_option maxHeartbeats 400000 in
set_option maxRecDepth 20000 in
theorem fits256_5 (n : Int) (w : World) (h1 : -9223372036854775808 ≤ n) (h2 : n ≤ 9223372036854775807) : Calls Tryz.prog 77 #[.int .i64 7, .int .i64 n] w (FitP 6 n w) := by
  by_cases c1 : -281474976710656 ≤ n
  · by_cases c2 : n < 281474976710656
    · have HB := Lib.hid (fitsB_yes (j := 6) (n := n) (p := 281474976710656) (by decide) c1 c2)
      go_enter Tryz.func77, Tryz.ntmps77
      go_wp2
      go_ret
      exact ⟨by rw [HB.out]; rfl, rfl⟩
    · have HB := Lib.hid (fitsB_no (j := 6) (n := n) (p := 281474976710656) (by decide) (by omega) (by omega))
      go_enter Tryz.func77, Tryz.ntmps77
      go_wp2
      go_ret
      exact ⟨by rw [HB.out]; rfl, rfl⟩
  · have HB := Lib.hid (fitsB_no (j := 6) (n := n) (p := 281474976710656) (by decide) (by omega) (by omega))
    go_enter Tryz.func77, Tryz.ntmps77
    go_wp2
    go_ret
    exact ⟨by rw [HB.out]; rfl, rfl⟩

set_option maxHeartbeats 400000 in
set_option maxRecDepth 20000 in
theorem fits256_6 (n : Int) (w : World) (h1 : -9223372036854775808 ≤ n) (h2 : n ≤ 9223372036854775807) : Calls Tryz.prog 77 #[.int .i64 8, .int .i64 n] w (FitP 7 n w) := by
  by_cases c1 : -72057594037927936 ≤ n
  · by_cases c2 : n < 72057594037927936
    · have HB := Lib.hid (fitsB_yes (j := 7) (n := n) (p := 72057594037927936) (by decide) c1 c2)
      go_enter Tryz.func77, Tryz.ntmps77
      go_wp2
      go_ret
      exact ⟨by rw [HB.out]; rfl, rfl⟩
    · have HB := Lib.hid (fitsB_no (j := 7) (n := n) (p := 72057594037927936) (by decide) (by omega) (by omega))
      go_enter Tryz.func77, Tryz.ntmps77
      go_wp2
      go_ret
      exact ⟨by rw [HB.out]; rfl, rfl⟩
  · have HB := Lib.hid (fitsB_no (j := 7) (n := n) (p := 72057594037927936) (by decide) (by omega) (by omega))
    go_enter Tryz.func77, Tryz.ntmps77
    go_wp2
    go_ret
    exact ⟨by rw [HB.out]; rfl, rfl⟩


set_option maxHeartbeats 400000 in
set_option maxRecDepth 20000 in
theorem fits256 (s : Nat) (z n : Int) (w : World) (hz : z = (s : Int) + 2) (hs : s ≤ 20) (h1 : -9223372036854775808 ≤ n) (h2 : n ≤ 9223372036854775807) : Calls Tryz.prog 77 #[.int .i64 z, .int .i64 n] w (FitP (s + 1) n w) := by
  by_cases hb : 7 ≤ s
  · have HB := Lib.hid (fitsB_big n (show 8 ≤ s + 1 by omega))
    have hz1 : 9 ≤ z := by omega
    have hz2 : z ≤ 22 := by omega
    clear hz
    go_enter Tryz.func77, Tryz.ntmps77
    go_wp2
    go_ret
    exact ⟨by rw [HB.out]; rfl, rfl⟩
  · have hc : s = 0 ∨ s = 1 ∨ s = 2 ∨ s = 3 ∨ s = 4 ∨ s = 5 ∨ s = 6 := by omega
    rcases hc with rfl | rfl | rfl | rfl | rfl | rfl | rfl
    · obtain rfl : z = 2 := by omega
      exact fits256_0 n w h1 h2
    · obtain rfl : z = 3 := by omega
      exact fits256_1 n w h1 h2
    · obtain rfl : z = 4 := by omega
      exact fits256_2 n w h1 h2
    · obtain rfl : z = 5 := by omega
      exact fits256_3 n w h1 h2
    · obtain rfl : z = 6 := by omega
      exact fits256_4 n w h1 h2
    · obtain rfl : z = 7 := by omega
      exact fits256_5 n w h1 h2
    · obtain rfl : z = 8 := by omega
      exact fits256_6 n w h1 h2

end Go.Proofs.YtepeehjajhehfaaGreatDoor
namespace Go.Proofs.YtepeehjajhehfaaGreatDoor
open Go.RowKit Go.PlainAid
set_option linter.unusedVariables false

def u8 (x : Int) : UInt8 := UInt8.ofNat (x % 256).toNat
theorem u8_toNat (x : Int) : ((u8 x).toNat : Int) = x % 256 := by
  unfold u8
  rw [UInt8.toNat_ofNat']
  omega
/-- The last t bytes of a number, the highest one first. -/
def be : Nat → Int → List UInt8
  | 0, _ => []
  | t + 1, n => u8 (n / ((256 ^ t : Nat) : Int)) :: be t n
theorem be_len : ∀ (t : Nat) (n : Int), (be t n).length = t
  | 0, _ => rfl
  | t + 1, n => by simp [be, be_len t n]
theorem be_next (t : Nat) (n : Int) : n / ((256 ^ t : Nat) : Int) / 256 = n / ((256 ^ (t + 1) : Nat) : Int) := by
  rw [Int.ediv_ediv_of_nonneg (Int.natCast_nonneg _), Nat.pow_succ, Int.natCast_mul]
  rfl
theorem msk_f (c : UInt8) : msk false c = c.toNat := rfl
theorem msk_t (c : UInt8) : msk true c = 255 - c.toNat := rfl
theorem dig_eq (neg : Bool) (N t : Nat) : msk neg (u8 (sg neg N / ((256 ^ t : Nat) : Int))) = N / 256 ^ t % 256 := by
  have hp : 0 < 256 ^ t := Nat.pow_pos (by omega)
  cases neg with
  | false =>
    have e : sg false N / ((256 ^ t : Nat) : Int) = ((N / 256 ^ t : Nat) : Int) := by
      show (N : Int) / _ = _
      rw [Int.natCast_ediv]
    rw [e, msk_f]
    have := u8_toNat ((N / 256 ^ t : Nat) : Int)
    generalize N / 256 ^ t = q at *
    omega
  | true =>
    have e : sg true N / ((256 ^ t : Nat) : Int) = -(((N / 256 ^ t : Nat) : Int) + 1) := by
      show (-1 - (N : Int)) / _ = _
      have hp' : (0 : Int) < ((256 ^ t : Nat) : Int) := Int.ofNat_lt.2 hp
      rw [show (-1 - (N : Int)) = Int.negSucc N by omega, Int.negSucc_ediv _ hp']
      show -((N : Int) / ((256 ^ t : Nat) : Int) + 1) = _
      rw [Int.natCast_ediv]
    rw [e, msk_t]
    have := u8_toNat (-(((N / 256 ^ t : Nat) : Int) + 1))
    generalize N / 256 ^ t = q at *
    omega
theorem bn_be (neg : Bool) (N : Nat) : ∀ (t acc : Nat), bn acc ((be t (sg neg N)).map (msk neg)) = acc * 256 ^ t + N % 256 ^ t
  | 0, acc => by simp [be, bn, Nat.mod_one]
  | t + 1, acc => by
    rw [be, List.map_cons, bn_cons, bn_be neg N t, dig_eq, Nat.pow_succ, Nat.mod_mul, Nat.add_mul, Nat.mul_assoc, Nat.mul_comm 256, Nat.mul_comm (N / 256 ^ t % 256)]
    omega
def headB (n : Int) : UInt8 := if n < 0 then 255 else 128
/-- A field with a number in base 256. -/
def fieldB (m : Nat) (n : Int) : List UInt8 := headB n :: be m n
theorem sg_of (n : Int) : ∃ (neg : Bool) (N : Nat), n = sg neg N ∧ neg = decide (n < 0) := by
  by_cases h : n < 0
  · exact ⟨true, (-1 - n).toNat, by simp only [sg]; simp; omega, by simp [h]⟩
  · exact ⟨false, n.toNat, by simp only [sg]; simp; omega, by simp [h]⟩
theorem fieldB_U {m : Nat} {n : Int} {neg : Bool} {N : Nat} (hn : n = sg neg N) (hneg : neg = decide (n < 0)) : negOf (headB n) = neg ∧ 128 ≤ (headB n).toNat ∧ bn 0 (digs neg (headB n) (be m n)) = N % 256 ^ m := by
  have h1 : negOf (headB n) = neg ∧ 128 ≤ (headB n).toNat ∧ msk neg (headB n) % 128 = 0 := by
    rw [hneg]
    unfold headB
    by_cases h : n < 0
    · simp only [h, if_true]; decide
    · simp only [h, if_false]; decide
  refine ⟨h1.1, h1.2.1, ?_⟩
  unfold digs
  rw [bn_cons, h1.2.2]
  subst hn
  have := bn_be neg N m 0
  simpa using this
theorem fits_N {m : Nat} {n : Int} {neg : Bool} {N : Nat} (hn : n = sg neg N) (hf : fitsB m n = true) (h1 : -9223372036854775808 ≤ n) (h2 : n ≤ 9223372036854775807) : N % 256 ^ m = N ∧ N < 9223372036854775808 := by
  have hN : N < 9223372036854775808 := by
    subst hn
    cases neg <;> simp only [sg] at h1 h2 <;> simp at h1 h2 <;> omega
  refine ⟨Nat.mod_eq_of_lt ?_, hN⟩
  unfold fitsB at hf
  by_cases h8 : 8 ≤ m
  · have h4 := Nat.pow_le_pow_right (n := 256) (by omega) h8
    have h5 : (256 : Nat) ^ 8 = 18446744073709551616 := by decide
    omega
  · simp only [h8, decide_false, Bool.false_or, Bool.and_eq_true, decide_eq_true_eq] at hf
    obtain ⟨p, hp⟩ : ∃ p : Nat, p = 256 ^ m := ⟨_, rfl⟩
    rw [← hp] at hf ⊢
    subst hn
    cases neg <;> simp only [sg] at hf <;> simp at hf <;> omega

theorem put_start (m : Nat) : zbs (1 + m) ++ be 0 0 = zbs (1 + m) := by simp [be]
theorem put_set {m t : Nat} (n : Int) (h : t < m) : (zbs (1 + (m - t)) ++ be t n).set (m - t) (u8 (n / ((256 ^ t : Nat) : Int))) = zbs (1 + (m - (t + 1))) ++ be (t + 1) n := by
  obtain ⟨k, hk⟩ : ∃ k, m - t = k + 1 := ⟨m - t - 1, by omega⟩
  rw [hk, show m - (t + 1) = k by omega, List.set_append_left _ _ (by rw [length_zbs]; omega)]
  have e : (zbs (1 + (k + 1))).set (k + 1) (u8 (n / ((256 ^ t : Nat) : Int))) = zbs (1 + k) ++ [u8 (n / ((256 ^ t : Nat) : Int))] := by
    have e2 : zbs (1 + (k + 1)) = zbs (1 + k) ++ [0] := by unfold zbs; rw [show 1 + (k + 1) = (1 + k) + 1 by omega, List.replicate_succ']
    rw [e2, List.set_append_right _ _ (by rw [length_zbs]; omega), length_zbs, show k + 1 - (1 + k) = 0 by omega]
    rfl
  rw [e, be, List.append_assoc]
  rfl
end Go.Proofs.YtepeehjajhehfaaGreatDoor
namespace Go.Proofs.YtepeehjajhehfaaGreatDoor
open Go.RowKit Go.PlainAid
set_option linter.unusedVariables false

theorem bys_setB (bs : List UInt8) (p : Nat) (v : UInt8) : (bys bs).set p (.int .u8 (v.toNat : Int)) = bys (bs.set p v) := by simp [bys, List.map_set]
theorem neg_be (m : Nat) (n : Int) : (n / ((256 ^ m : Nat) : Int) < 0) ↔ n < 0 := by
  have hp : (0 : Int) < ((256 ^ m : Nat) : Int) := Int.ofNat_lt.2 (Nat.pow_pos (by omega))
  constructor
  · intro h
    by_cases h1 : n < 0
    · exact h1
    · have := Int.ediv_nonneg (show 0 ≤ n by omega) (Int.le_of_lt hp)
      omega
  · exact fun h => Int.ediv_neg_of_neg_of_pos h hp
def PutBP (m : Nat) (n : Int) (w : World) (e : Ending) (w' : World) : Prop := e = .returned (.slice (some ⟨w.heap.size, 0, none⟩) (m + 1) (m + 1)) ∧ Blk w' w.heap.size 5 (bys (fieldB m n)) ∧ Below w.heap.size w w'
set_option maxHeartbeats 1600000 in
set_option maxRecDepth 20000 in
theorem specPutBytes (m : Nat) (z n : Int) (w : World) (hz : z = (m : Int) + 1) (hm : m ≤ 1000) (h1 : -9223372036854775808 ≤ n) (h2 : n ≤ 9223372036854775807) :
    Calls Tryz.prog 58 #[.int .i64 z, .int .i64 n] w (PutBP m n w) := by
  subst hz
  go_enter Tryz.func58, Tryz.ntmps58
  go_wp2_with (refine wpList_make_blk _ (o := ⟨some 8, _, _, _, _, _⟩) rfl _ _ _ rfl 5 _ 1 Tryz.underlying35 u8info rfl _ _ ((m : Int) + 1) ((m : Int) + 1) (m + 1) rfl rfl (by rw [Int.natCast_add]; rfl) (by rw [Int.natCast_add]; rfl) (by omega) (by omega) ?_)
  intro w1 b1 g1 z1
  have HB1 : Hid (Blk w1 w.heap.size 5 (bys (zbs (m + 1)))) := by rw [bys_zbs]; exact b1
  have HW1 : Hid (Below w.heap.size w w1) := grownBy_below g1 (Nat.le_refl _) (by simp)
  have z1' : w1.heap.size = w.heap.size + 1 := z1
  clear b1 g1 z1
  go_wp2
  go_loopw [1, 6] (fun v1 v6 wr => ∃ (j t : Nat) (q : Int), t + j = m ∧ v6 = .int .i64 j ∧ v1 = .int .i64 q ∧ -9223372036854775808 ≤ q ∧ q ≤ 9223372036854775807 ∧ Hid (q = n / ((256 ^ t : Nat) : Int)) ∧ Hid (Blk wr w.heap.size 5 (bys (zbs (1 + j) ++ be t n))) ∧ Hid (Below w.heap.size w wr)) (fun _ v6 _ => (intOf v6).toNat)
  case atStart => exact ⟨m, 0, n, by omega, rfl, rfl, h1, h2, Lib.hid (by simp), Lib.hid (by rw [Nat.add_comm 1 m]; simpa [be] using HB1.out), HW1⟩
  case round =>
    obtain ⟨j, t, q, hjt, rfl, rfl, hq1, hq2, hQ, hA, hW⟩ := hrel
    by_cases hj : 0 < j
    · have hj' : (0 : Int) < (j : Int) := by omega
      have hjm : (j : Int) < (m : Int) + 1 := by omega
      have q0 : wr.cell? ⟨w.heap.size, j, none⟩ = some (.int .u8 (byt (zbs (1 + j) ++ be t n) j)) := by rw [hA.out.cell, bys_get _ _ (by rw [List.length_append, length_zbs]; omega)]
      have q1 := hA.out.frozen j
      have HS : Hid (Blk (wr.setCell ⟨w.heap.size, j, none⟩ (.int .u8 (q % 256))) w.heap.size 5 (bys (zbs (1 + (j - 1)) ++ be (t + 1) n))) := Lib.hid (by
        have h3 := put_set (m := m) (t := t) n (by omega)
        rw [show m - t = j by omega, show m - (t + 1) = j - 1 by omega] at h3
        rw [← h3, ← bys_setB, u8_toNat, ← hQ.out]
        exact hA.out.set_ j _)
      have HQ2 : Hid (q / 256 = n / ((256 ^ (t + 1) : Nat) : Int)) := Lib.hid (by rw [← be_next, hQ.out])
      have hb1 : -9223372036854775808 ≤ q / 256 := by omega
      have hb2 : q / 256 ≤ 9223372036854775807 := by omega
      go_wp2
      go_roundw
      case rel => exact ⟨j - 1, t + 1, q / 256, by omega, by go_num, rfl, hb1, hb2, HQ2, HS, Lib.hid (hW.out.setCell (Nat.le_refl _) _)⟩
      case measure => simp [intOf]; omega
    · obtain rfl : j = 0 := by omega
      obtain rfl : t = m := by omega
      have q0 : wr.cell? ⟨w.heap.size, 0, none⟩ = some (.int .u8 (byt (zbs (1 + 0) ++ be t n) 0)) := by rw [hA.out.cell, bys_get _ _ (by rw [List.length_append, length_zbs]; omega)]
      have q1 := hA.out.frozen 0
      have HA2 : Hid (Blk (wr.setCell ⟨w.heap.size, 0, none⟩ (.int .u8 128)) w.heap.size 5 (bys ((128 : UInt8) :: be t n))) := Lib.hid (by
        have h3 := hA.out.set_ 0 (.int .u8 128)
        exact h3)
      have HW2 : Hid (Below w.heap.size w (wr.setCell ⟨w.heap.size, 0, none⟩ (.int .u8 128))) := Lib.hid (hW.out.setCell (Nat.le_refl _) _)
      have hneg := neg_be t n
      rw [← hQ.out] at hneg
      by_cases hn : n < 0
      · have hqn : q < 0 := hneg.2 hn
        have HH : Hid (headB n = 255) := Lib.hid (by unfold headB; rw [if_pos hn])
        have p0 : (wr.setCell ⟨w.heap.size, 0, none⟩ (.int .u8 128)).cell? ⟨w.heap.size, 0, none⟩ = some (.int .u8 128) := by rw [HA2.out.cell]; rfl
        have p1 := HA2.out.frozen 0
        clear hneg hn
        go_wp2
        go_ret
        exact ⟨rfl, by unfold fieldB; rw [HH.out]; exact HA2.out.set_ 0 (.int .u8 255), HW2.out.setCell (Nat.le_refl _) _⟩
      · have hqn : ¬ q < 0 := fun h => hn (hneg.1 h)
        have HH : Hid (headB n = 128) := Lib.hid (by unfold headB; rw [if_neg hn])
        clear hneg hn
        go_wp2
        go_ret
        exact ⟨rfl, by unfold fieldB; rw [HH.out]; exact HA2.out, HW2.out⟩
end Go.Proofs.YtepeehjajhehfaaGreatDoor
