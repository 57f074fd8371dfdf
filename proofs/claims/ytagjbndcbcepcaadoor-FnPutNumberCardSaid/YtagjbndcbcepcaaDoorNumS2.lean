/- spec.Number, with the reason for 'open': the number has more than 63 bits. (Printed by wip/gen_nums2.py out of XNumS.) -/
import Derived.Test.YtagjbndcbcepcaaDoorNumS
import Derived.Test.YtagjbndcbcepcaaDoorOctS2
namespace Go.Proofs.YtagjbndcbcepcaaDoor
open Go.RowKit Go.PlainAid
set_option linter.unusedVariables false

theorem bn_acc : ∀ (l : List Nat) (acc : Nat), bn acc l = acc * 256 ^ l.length + bn 0 l
  | [], acc => by simp [bn]
  | d :: l, acc => by
    rw [bn_cons, bn_acc l, bn_cons 0, bn_acc l (0 * 256 + d), List.length_cons, Nat.pow_succ, Nat.add_mul, Nat.zero_mul, Nat.zero_add, Nat.mul_assoc, Nat.mul_comm 256]
    omega
theorem bn_big {neg : Bool} {r : List UInt8} {k : Nat} {y : UInt8} (h : r[k]? = some y) (d j : Nat) (hd : d ≤ msk neg y) (hj : k + 1 + j ≤ r.length) : d * 256 ^ j ≤ bn 0 (r.map (msk neg)) := by
  have e : r.map (msk neg) = (r.map (msk neg)).take (k + 1) ++ (r.map (msk neg)).drop (k + 1) := (List.take_append_drop _ _).symm
  rw [e, bn_app, bn_acc, bn_map_take h]
  have hl : ((r.map (msk neg)).drop (k + 1)).length = r.length - (k + 1) := by simp
  rw [hl]
  have h1 : 256 ^ j ≤ 256 ^ (r.length - (k + 1)) := Nat.pow_le_pow_right (by omega) (by omega)
  have h2 : d * 256 ^ j ≤ (bn 0 ((r.map (msk neg)).take k) * 256 + msk neg y) * 256 ^ (r.length - (k + 1)) := Nat.mul_le_mul (by omega) h1
  omega
/-- What spec.Number says of a field with a first byte 128 or 255. -/
def NumSG (x : UInt8) (r : List UInt8) (X v : Int) : Prop :=
  (v = 0 ∧ 9223372036854775808 ≤ bn 0 (digs (negOf x) x r)) ∨ (v = 1 ∧ X = sg (negOf x) (bn 0 (digs (negOf x) x r)))
def NumSGP (x : UInt8) (r : List UInt8) (w : World) (e : Ending) (w' : World) : Prop := (∃ X v, e = .returned (.tuple #[.int .i64 X, .int .i64 v]) ∧ NumSG x r X v) ∧ w = w'
set_option maxHeartbeats 800000 in
set_option maxRecDepth 20000 in
theorem specNumG_oct (A : Option Addr) (n c B : Nat) (x : UInt8) (r : List UInt8) (w : World) (hn : (x :: r).length = n) (hr : RB w B A (x :: r)) (hnc : n ≤ c) (hm : n ≤ 70368744177664) (hx1 : x.toNat < 128) :
    Calls Tryd.prog 15 #[.slice A n c] w (OctSGP (x :: r) w) := by
  have HO := Lib.hid (specOctalG A n c B (x :: r) w hn hr hnc hm)
  obtain ⟨b, off, rfl, _, hc⟩ := hr (by simp)
  have hcell0 : w.cell? ⟨b, off, none⟩ = some (.int .u8 (x.toNat : Int)) := hc 0 (by simp)
  have h0n : (0 : Int) < (n : Int) := by have := hn; simp at this; omega
  have h0n' : ((n : Int) == 0) = false := by rw [beq_eq_false_iff_ne]; omega
  have hlt : (x.toNat : Int) < 128 := by omega
  clear hn hr hc
  go_enter Tryd.func15, Tryd.ntmps15
  go_wp2_with fail
  refine HO.out.mono ?_
  rintro e w1 ⟨⟨y, v, rfl, hS⟩, rfl⟩
  have HS := Lib.hid hS
  clear hS
  go_wp2
  go_ret2
  exact ⟨⟨y, v, rfl, HS.out⟩, rfl⟩
set_option maxHeartbeats 3200000 in
set_option maxRecDepth 20000 in
theorem specNumG_neg (A : Option Addr) (n c B : Nat) (x : UInt8) (r : List UInt8) (w : World) (hn : r.length = n) (hr : RB w B A (x :: r)) (hnc : n + 1 ≤ c) (hm : n + 1 ≤ 70368744177664) (hx : x.toNat = 255) :
    Calls Tryd.prog 15 #[.slice A (n + 1) c] w (NumSGP x r w) := by
  obtain ⟨b, off, rfl, _, hc⟩ := hr (by simp)
  have hcell0 : w.cell? ⟨b, off, none⟩ = some (.int .u8 255) := by have := hc 0 (by simp); rw [show byt (x :: r) 0 = (x.toNat : Int) from rfl, hx] at this; exact this
  have HC : Hid (∀ k, k < n → w.cell? ⟨b, off + 1 + k, none⟩ = some (.int .u8 (byt r k))) := Lib.hid (fun k hk => by
    have := hc (k + 1) (by simp; omega)
    rw [show off + (k + 1) = off + 1 + k by omega] at this
    exact this)
  have HN := Lib.hid hn
  have HX : Hid (negOf x = true) := Lib.hid (by unfold negOf; rw [hx]; decide)
  have HX2 : Hid (128 ≤ x.toNat) := Lib.hid (by omega)
  have HD : Hid (bn 0 (digs true x r) = bn 0 (r.map (msk true))) := Lib.hid (by
    unfold digs
    rw [bn_cons, show msk true x % 128 = 0 by unfold msk; rw [hx]; decide])
  clear hn hr hc hx
  by_cases hc1 : c = 1
  · subst hc1
    obtain rfl : n = 0 := by omega
    have HZ : Hid (r = []) := Lib.hid (List.eq_nil_of_length_eq_zero HN.out)
    go_enter Tryd.func15, Tryd.ntmps15
    go_wp2
    go_loop [5, 40] (fun v5 v40 => v5 = .int .i64 (-1) ∧ v40 = .int .i64 0) (fun _ _ => 0)
    case atStart => exact ⟨rfl, rfl⟩
    case round =>
      obtain ⟨rfl, rfl⟩ := hrel
      go_wp2
      go_ret2
      have e : bn 0 (digs (negOf x) x r) = 0 := by rw [HX.out, HD.out, HZ.out]; rfl
      refine ⟨⟨-1, 1, rfl, .inr ⟨rfl, ?_⟩⟩, rfl⟩
      rw [e, HX.out]
      rfl
  · have hcc : ((c : Int) - 1 == 0) = false := by rw [beq_eq_false_iff_ne]; omega
    have hcc2 : ((c : Int) == 1) = false := by rw [beq_eq_false_iff_ne]; omega
    go_enter Tryd.func15, Tryd.ntmps15
    go_wp2
    obtain ⟨L, hL⟩ : ∃ L, L = r.map (msk true) := ⟨_, rfl⟩
    have HL := Lib.hid hL
    clear hL hcell0
    go_loop [5, 40] (fun v5 v40 => ∃ k : Nat, k ≤ n ∧ v40 = .int .i64 k ∧ ∃ q : Int, v5 = .int .i64 q ∧ ∃ U : Nat, Hid (q = sg true U ∧ U = bn 0 (L.take k) ∧ U < top (n - k))) (fun _ v40 => n - (intOf v40).toNat)
    case atStart => exact ⟨0, by omega, rfl, -1, rfl, 0, Lib.hid ⟨rfl, by simp [bn], top_pos _⟩⟩
    case round =>
      obtain ⟨k, hk, rfl, q, rfl, U, hU⟩ := hrel
      by_cases hlt : k < n
      · obtain ⟨y, hy1, hy2⟩ := byt_of (bs := r) (k := k) (by rw [HN.out]; exact hlt)
        have hcell := HC.out k hlt
        rw [hy2] at hcell
        have y255 := y.toNat_lt
        have hkn : (k : Int) < (n : Int) := by omega
        have HT : Hid (bn 0 (L.take (k + 1)) = U * 256 + msk true y) := Lib.hid (by rw [hU.out.2.1, HL.out]; exact bn_map_take hy1)
        have hU1 : U < 36028797018963968 := Nat.lt_of_lt_of_le hU.out.2.2 (top_le1 _ (by omega))
        have hq : -36028797018963968 ≤ q ∧ q < 36028797018963968 := by rw [hU.out.1]; exact sg_bound hU1
        obtain ⟨hq1, hq2⟩ := hq
        have HQ : Hid (q * 256 + (y.toNat : Int) = sg true (U * 256 + msk true y)) := Lib.hid (by rw [sg_step, hU.out.1])
        have hml := msk_lt true y
        have HY := Lib.hid hy1
        clear hy1 hy2
        by_cases h8 : 8 < n - k
        · have hg8 : (8 : Int) < (n : Int) - (k : Int) := by omega
          have hU0 : U = 0 := by have := hU.out.2.2; rw [top_one (by omega)] at this; omega
          by_cases hyf : y.toNat = 255
          · rw [hyf] at hcell
            have hd0 : msk true y = 0 := by unfold msk; rw [hyf]; decide
            have HS : Hid (q = sg true (U * 256 + msk true y) ∧ U * 256 + msk true y = bn 0 (L.take (k + 1)) ∧ U * 256 + msk true y < top (n - (k + 1))) := Lib.hid ⟨by rw [hU.out.1, hd0, hU0], HT.out.symm, by rw [hd0, hU0, top_one (by omega)]; omega⟩
            clear hd0 hU0 hyf
            go_wp2
            exact ⟨⟨k + 1, by omega, by rw [Int.natCast_add]; rfl, q, rfl, _, HS⟩, by simp [intOf]; omega⟩
          · have HBAD : Hid (9223372036854775808 ≤ bn 0 (digs (negOf x) x r)) := Lib.hid (by
              rw [HX.out, HD.out]
              have h1 := bn_big (neg := true) (r := r) (k := k) (y := y) HY.out 1 8 (by have := y.toNat_lt; simp only [msk]; simp; omega) (by rw [HN.out]; omega)
              have h2 : 1 * 256 ^ 8 = 18446744073709551616 := by decide
              omega)
            have hne : ((y.toNat : Int) != 255) = true := by rw [bne_iff_ne]; omega
            have hne' : ((y.toNat : Int) == 255) = false := by rw [beq_eq_false_iff_ne]; omega
            clear hyf hU0
            go_wp2
            go_ret2
            exact ⟨⟨0, 0, rfl, .inl ⟨rfl, HBAD.out⟩⟩, rfl⟩
        · have hg8 : ¬ (8 : Int) < (n : Int) - (k : Int) := by omega
          have hor := or_i64 q y.toNat (by omega) (by omega) (by omega)
          have hsh : (q * 256 : Int) ≤ 9223372036854775807 ∧ -9223372036854775808 ≤ q * 256 := by omega
          obtain ⟨hsh1, hsh2⟩ := hsh
          by_cases he8 : n - k = 8
          · have hg8' : ((n : Int) - (k : Int) == 8) = true := by rw [beq_iff_eq]; omega
            have hg8'' : (n : Int) - (k : Int) = 8 := by omega
            by_cases hsign : y.toNat / 128 = 255 / 128
            · have HS : Hid (q * 256 + (y.toNat : Int) = sg true (U * 256 + msk true y) ∧ U * 256 + msk true y = bn 0 (L.take (k + 1)) ∧ U * 256 + msk true y < top (n - (k + 1))) := Lib.hid ⟨HQ.out, HT.out.symm, by
                have h1 := hU.out.2.2
                rw [show n - k = (n - (k + 1)) + 1 by omega] at h1
                refine top_step h1 hml (by omega) (fun _ => ?_)
                simp only [msk]
                simp
                omega⟩
              have hsg : ((y.toNat : Int) / 128 == 255 / 128) = true := by rw [beq_iff_eq]; omega
              have hsg' : (y.toNat : Int) / 128 = 1 := by omega
              clear hsign he8
              go_wp2
              exact ⟨⟨k + 1, by omega, by rw [Int.natCast_add]; rfl, _, rfl, _, HS⟩, by simp [intOf]; omega⟩
            · have HBAD : Hid (9223372036854775808 ≤ bn 0 (digs (negOf x) x r)) := Lib.hid (by
                rw [HX.out, HD.out]
                have h1 := bn_big (neg := true) (r := r) (k := k) (y := y) HY.out 128 7 (by have := y.toNat_lt; simp only [msk]; simp; omega) (by rw [HN.out]; omega)
                have h2 : 128 * 256 ^ 7 = 9223372036854775808 := by decide
                omega)
              have hsg' : ((y.toNat : Int) / 128 != 1) = true := by rw [bne_iff_ne]; omega
              have hsg2 : ((y.toNat : Int) / 128 == 1) = false := by rw [beq_eq_false_iff_ne]; omega
              clear hsign he8
              go_wp2
              go_ret2
              exact ⟨⟨0, 0, rfl, .inl ⟨rfl, HBAD.out⟩⟩, rfl⟩
          · have hg8' : ((n : Int) - (k : Int) == 8) = false := by rw [beq_eq_false_iff_ne]; omega
            have HS : Hid (q * 256 + (y.toNat : Int) = sg true (U * 256 + msk true y) ∧ U * 256 + msk true y = bn 0 (L.take (k + 1)) ∧ U * 256 + msk true y < top (n - (k + 1))) := Lib.hid ⟨HQ.out, HT.out.symm, by
                have h1 := hU.out.2.2
                rw [show n - k = (n - (k + 1)) + 1 by omega] at h1
                exact top_step h1 hml (by omega) (by omega)⟩
            clear he8
            go_wp2
            exact ⟨⟨k + 1, by omega, by rw [Int.natCast_add]; rfl, _, rfl, _, HS⟩, by simp [intOf]; omega⟩
      · obtain rfl : k = n := by omega
        go_wp2
        go_ret2
        have e : bn 0 (digs (negOf x) x r) = U := by rw [HX.out, HD.out, ← HL.out, hU.out.2.1, List.take_of_length_le (by rw [HL.out, List.length_map, HN.out]; exact Nat.le_refl _)]
        refine ⟨⟨q, 1, rfl, .inr ⟨rfl, ?_⟩⟩, rfl⟩
        rw [e, HX.out]
        exact hU.out.1
set_option maxHeartbeats 3200000 in
set_option maxRecDepth 20000 in
theorem specNumG_pos (A : Option Addr) (n c B : Nat) (x : UInt8) (r : List UInt8) (w : World) (hn : r.length = n) (hr : RB w B A (x :: r)) (hnc : n + 1 ≤ c) (hm : n + 1 ≤ 70368744177664) (hx : x.toNat = 128) :
    Calls Tryd.prog 15 #[.slice A (n + 1) c] w (NumSGP x r w) := by
  obtain ⟨b, off, rfl, _, hc⟩ := hr (by simp)
  have hcell0 : w.cell? ⟨b, off, none⟩ = some (.int .u8 128) := by have := hc 0 (by simp); rw [show byt (x :: r) 0 = (x.toNat : Int) from rfl, hx] at this; exact this
  have HC : Hid (∀ k, k < n → w.cell? ⟨b, off + 1 + k, none⟩ = some (.int .u8 (byt r k))) := Lib.hid (fun k hk => by
    have := hc (k + 1) (by simp; omega)
    rw [show off + (k + 1) = off + 1 + k by omega] at this
    exact this)
  have HN := Lib.hid hn
  have HX : Hid (negOf x = false) := Lib.hid (by unfold negOf; rw [hx]; decide)
  have HX2 : Hid (128 ≤ x.toNat) := Lib.hid (by omega)
  have HD : Hid (bn 0 (digs false x r) = bn 0 (r.map (msk false))) := Lib.hid (by
    unfold digs
    rw [bn_cons, show msk false x % 128 = 0 by unfold msk; rw [hx]; decide])
  clear hn hr hc hx
  by_cases hc1 : c = 1
  · subst hc1
    obtain rfl : n = 0 := by omega
    have HZ : Hid (r = []) := Lib.hid (List.eq_nil_of_length_eq_zero HN.out)
    go_enter Tryd.func15, Tryd.ntmps15
    go_wp2
    go_loop [5, 40] (fun v5 v40 => v5 = .int .i64 (0) ∧ v40 = .int .i64 0) (fun _ _ => 0)
    case atStart => exact ⟨rfl, rfl⟩
    case round =>
      obtain ⟨rfl, rfl⟩ := hrel
      go_wp2
      go_ret2
      have e : bn 0 (digs (negOf x) x r) = 0 := by rw [HX.out, HD.out, HZ.out]; rfl
      refine ⟨⟨0, 1, rfl, .inr ⟨rfl, ?_⟩⟩, rfl⟩
      rw [e, HX.out]
      rfl
  · have hcc : ((c : Int) - 1 == 0) = false := by rw [beq_eq_false_iff_ne]; omega
    have hcc2 : ((c : Int) == 1) = false := by rw [beq_eq_false_iff_ne]; omega
    go_enter Tryd.func15, Tryd.ntmps15
    go_wp2
    obtain ⟨L, hL⟩ : ∃ L, L = r.map (msk false) := ⟨_, rfl⟩
    have HL := Lib.hid hL
    clear hL hcell0
    go_loop [5, 40] (fun v5 v40 => ∃ k : Nat, k ≤ n ∧ v40 = .int .i64 k ∧ ∃ q : Int, v5 = .int .i64 q ∧ ∃ U : Nat, Hid (q = sg false U ∧ U = bn 0 (L.take k) ∧ U < top (n - k))) (fun _ v40 => n - (intOf v40).toNat)
    case atStart => exact ⟨0, by omega, rfl, 0, rfl, 0, Lib.hid ⟨rfl, by simp [bn], top_pos _⟩⟩
    case round =>
      obtain ⟨k, hk, rfl, q, rfl, U, hU⟩ := hrel
      by_cases hlt : k < n
      · obtain ⟨y, hy1, hy2⟩ := byt_of (bs := r) (k := k) (by rw [HN.out]; exact hlt)
        have hcell := HC.out k hlt
        rw [hy2] at hcell
        have y255 := y.toNat_lt
        have hkn : (k : Int) < (n : Int) := by omega
        have HT : Hid (bn 0 (L.take (k + 1)) = U * 256 + msk false y) := Lib.hid (by rw [hU.out.2.1, HL.out]; exact bn_map_take hy1)
        have hU1 : U < 36028797018963968 := Nat.lt_of_lt_of_le hU.out.2.2 (top_le1 _ (by omega))
        have hq : -36028797018963968 ≤ q ∧ q < 36028797018963968 := by rw [hU.out.1]; exact sg_bound hU1
        obtain ⟨hq1, hq2⟩ := hq
        have HQ : Hid (q * 256 + (y.toNat : Int) = sg false (U * 256 + msk false y)) := Lib.hid (by rw [sg_step, hU.out.1])
        have hml := msk_lt false y
        have HY := Lib.hid hy1
        clear hy1 hy2
        by_cases h8 : 8 < n - k
        · have hg8 : (8 : Int) < (n : Int) - (k : Int) := by omega
          have hU0 : U = 0 := by have := hU.out.2.2; rw [top_one (by omega)] at this; omega
          by_cases hyf : y.toNat = 0
          · rw [hyf] at hcell
            have hd0 : msk false y = 0 := by unfold msk; rw [hyf]; decide
            have HS : Hid (q = sg false (U * 256 + msk false y) ∧ U * 256 + msk false y = bn 0 (L.take (k + 1)) ∧ U * 256 + msk false y < top (n - (k + 1))) := Lib.hid ⟨by rw [hU.out.1, hd0, hU0], HT.out.symm, by rw [hd0, hU0, top_one (by omega)]; omega⟩
            clear hd0 hU0 hyf
            go_wp2
            exact ⟨⟨k + 1, by omega, by rw [Int.natCast_add]; rfl, q, rfl, _, HS⟩, by simp [intOf]; omega⟩
          · have HBAD : Hid (9223372036854775808 ≤ bn 0 (digs (negOf x) x r)) := Lib.hid (by
              rw [HX.out, HD.out]
              have h1 := bn_big (neg := false) (r := r) (k := k) (y := y) HY.out 1 8 (by have := y.toNat_lt; simp only [msk]; simp; omega) (by rw [HN.out]; omega)
              have h2 : 1 * 256 ^ 8 = 18446744073709551616 := by decide
              omega)
            have hne : ((y.toNat : Int) != 0) = true := by rw [bne_iff_ne]; omega
            have hne' : ((y.toNat : Int) == 0) = false := by rw [beq_eq_false_iff_ne]; omega
            clear hyf hU0
            go_wp2
            go_ret2
            exact ⟨⟨0, 0, rfl, .inl ⟨rfl, HBAD.out⟩⟩, rfl⟩
        · have hg8 : ¬ (8 : Int) < (n : Int) - (k : Int) := by omega
          have hor := or_i64 q y.toNat (by omega) (by omega) (by omega)
          have hsh : (q * 256 : Int) ≤ 9223372036854775807 ∧ -9223372036854775808 ≤ q * 256 := by omega
          obtain ⟨hsh1, hsh2⟩ := hsh
          by_cases he8 : n - k = 8
          · have hg8' : ((n : Int) - (k : Int) == 8) = true := by rw [beq_iff_eq]; omega
            have hg8'' : (n : Int) - (k : Int) = 8 := by omega
            by_cases hsign : y.toNat / 128 = 0 / 128
            · have HS : Hid (q * 256 + (y.toNat : Int) = sg false (U * 256 + msk false y) ∧ U * 256 + msk false y = bn 0 (L.take (k + 1)) ∧ U * 256 + msk false y < top (n - (k + 1))) := Lib.hid ⟨HQ.out, HT.out.symm, by
                have h1 := hU.out.2.2
                rw [show n - k = (n - (k + 1)) + 1 by omega] at h1
                refine top_step h1 hml (by omega) (fun _ => ?_)
                simp only [msk]
                simp
                omega⟩
              have hsg : ((y.toNat : Int) / 128 == 0 / 128) = true := by rw [beq_iff_eq]; omega
              have hsg' : (y.toNat : Int) / 128 = 0 := by omega
              clear hsign he8
              go_wp2
              exact ⟨⟨k + 1, by omega, by rw [Int.natCast_add]; rfl, _, rfl, _, HS⟩, by simp [intOf]; omega⟩
            · have HBAD : Hid (9223372036854775808 ≤ bn 0 (digs (negOf x) x r)) := Lib.hid (by
                rw [HX.out, HD.out]
                have h1 := bn_big (neg := false) (r := r) (k := k) (y := y) HY.out 128 7 (by have := y.toNat_lt; simp only [msk]; simp; omega) (by rw [HN.out]; omega)
                have h2 : 128 * 256 ^ 7 = 9223372036854775808 := by decide
                omega)
              have hsg' : ((y.toNat : Int) / 128 != 0) = true := by rw [bne_iff_ne]; omega
              have hsg2 : ((y.toNat : Int) / 128 == 0) = false := by rw [beq_eq_false_iff_ne]; omega
              clear hsign he8
              go_wp2
              go_ret2
              exact ⟨⟨0, 0, rfl, .inl ⟨rfl, HBAD.out⟩⟩, rfl⟩
          · have hg8' : ((n : Int) - (k : Int) == 8) = false := by rw [beq_eq_false_iff_ne]; omega
            have HS : Hid (q * 256 + (y.toNat : Int) = sg false (U * 256 + msk false y) ∧ U * 256 + msk false y = bn 0 (L.take (k + 1)) ∧ U * 256 + msk false y < top (n - (k + 1))) := Lib.hid ⟨HQ.out, HT.out.symm, by
                have h1 := hU.out.2.2
                rw [show n - k = (n - (k + 1)) + 1 by omega] at h1
                exact top_step h1 hml (by omega) (by omega)⟩
            clear he8
            go_wp2
            exact ⟨⟨k + 1, by omega, by rw [Int.natCast_add]; rfl, _, rfl, _, HS⟩, by simp [intOf]; omega⟩
      · obtain rfl : k = n := by omega
        go_wp2
        go_ret2
        have e : bn 0 (digs (negOf x) x r) = U := by rw [HX.out, HD.out, ← HL.out, hU.out.2.1, List.take_of_length_le (by rw [HL.out, List.length_map, HN.out]; exact Nat.le_refl _)]
        refine ⟨⟨q, 1, rfl, .inr ⟨rfl, ?_⟩⟩, rfl⟩
        rw [e, HX.out]
        exact hU.out.1
end Go.Proofs.YtagjbndcbcepcaaDoor
