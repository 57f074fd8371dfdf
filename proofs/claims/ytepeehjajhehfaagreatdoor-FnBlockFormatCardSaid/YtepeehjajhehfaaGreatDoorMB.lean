/- Octal and binary numbers of a field: plain words. The walk of laws.below: a number brought into the range from 0 to n-1. Which numbers fit an octal field. spec.Octal, case by case. Listed sentinels: from the tied condition to the variables' cells; their pointers differ. strconv.ParseUint at base 8, 64 bits. bytes.Trim at the set of a space and a byte 0. bytes.Trim at the set of a space and a byte 0: the walks. bytes.Trim at the set of a space and a byte 0: trimLeftASCII, Trim. impl.Octal: one contract. The law FnOctal. -/
import Derived.Test.YtepeehjajhehfaaGreatDoorW
import Derived.Test.YtepeehjajhehfaaGreatDoorRows
import Derived.Test.YtepeehjajhehfaaGreatDoorO
import Derived.Deep.CutBlock
import Derived.Deep.DeepCutAuto
import Derived.LaidLaws
import Derived.LaidMore
import Derived.ProofKit
import Derived.Stop.ErrReads
import Derived.LaidEql
import Derived.Test.YtepeehjajhehfaaGreatDoorShelf
import Derived.Lib.Strings
import Derived.Lib.Walk
import Derived.Lib.ConvBytes
import Derived.Lib.AtoiAllMem
import Derived.Laws.Strings3
import Derived.Laws.Closers25
import Derived.Laws.Closers25b
import Derived.BigCall
import Derived.BigGuard
import Derived.Lib.UnsafeStr
import Derived.Deep.WholeRow
import Derived.Deep.MidRow
import Derived.Deep.LoopGhost
import Derived.Lib.AsciiSet
import Derived.Lib.IndexBytes
import Derived.Deep.RegionHeld3
import Derived.Test.YtepeehjajhehfaaGreatDoorText
import Derived.Stop.IfaceNil
namespace Go.Proofs.YtepeehjajhehfaaGreatDoor
open Go.RowKit Go.PlainAid
set_option linter.unusedVariables false

/-! ### Octal digits -/
def d8 (c : UInt8) : Prop := 48 ≤ c.toNat ∧ c.toNat ≤ 55
def all8 (l : List UInt8) : Prop := ∀ c ∈ l, d8 c
def v8 (acc : Nat) (l : List UInt8) : Nat := l.foldl (fun a c => a * 8 + (c.toNat - 48)) acc
theorem v8_cons (acc : Nat) (c : UInt8) (l : List UInt8) : v8 acc (c :: l) = v8 (acc * 8 + (c.toNat - 48)) l := by unfold v8; rw [List.foldl_cons]
theorem v8_snoc (acc : Nat) (c : UInt8) (l : List UInt8) : v8 acc (l ++ [c]) = v8 acc l * 8 + (c.toNat - 48) := by simp [v8]
theorem v8_app (acc : Nat) (a b : List UInt8) : v8 acc (a ++ b) = v8 (v8 acc a) b := by simp [v8]
theorem v8_ge : ∀ (l : List UInt8) (acc : Nat), acc ≤ v8 acc l
  | [], acc => Nat.le_refl _
  | c :: l, acc => by
    have := v8_ge l (acc * 8 + (c.toNat - 48))
    rw [v8_cons]
    omega
theorem v8_grow : ∀ (l : List UInt8) (acc : Nat), acc * 8 ^ l.length ≤ v8 acc l
  | [], acc => by simp [v8]
  | c :: l, acc => by
    have := v8_grow l (acc * 8 + (c.toNat - 48))
    rw [v8_cons, List.length_cons, Nat.pow_succ]
    have e : acc * (8 ^ l.length * 8) ≤ (acc * 8 + (c.toNat - 48)) * 8 ^ l.length := by
      rw [Nat.add_mul, Nat.mul_assoc, Nat.mul_comm 8]
      omega
    omega
theorem all8_cons {c : UInt8} {l : List UInt8} : all8 (c :: l) ↔ d8 c ∧ all8 l := by simp [all8]
theorem all8_app {a b : List UInt8} : all8 (a ++ b) ↔ all8 a ∧ all8 b := by
  constructor
  · intro h
    exact ⟨fun c hc => h c (List.mem_append_left _ hc), fun c hc => h c (List.mem_append_right _ hc)⟩
  · rintro ⟨h1, h2⟩ c hc
    rcases List.mem_append.1 hc with h | h
    · exact h1 c h
    · exact h2 c h
theorem v8_bound : ∀ (l : List UInt8) (acc : Nat), all8 l → v8 acc l < (acc + 1) * 8 ^ l.length
  | [], acc, _ => by simp [v8]
  | c :: l, acc, h => by
    obtain ⟨h1, h2⟩ := all8_cons.1 h
    unfold d8 at h1
    have := v8_bound l (acc * 8 + (c.toNat - 48)) h2
    rw [v8_cons, List.length_cons, Nat.pow_succ]
    have e : (acc * 8 + (c.toNat - 48) + 1) * 8 ^ l.length ≤ (acc * 8 + 8) * 8 ^ l.length := Nat.mul_le_mul_right _ (by omega)
    have e2 : (acc * 8 + 8) * 8 ^ l.length = (acc + 1) * (8 ^ l.length * 8) := by
      rw [show acc * 8 + 8 = (acc + 1) * 8 by omega, Nat.mul_assoc, Nat.mul_comm 8]
    omega
theorem v8_zeros (k acc : Nat) : v8 acc (List.replicate k 48) = acc * 8 ^ k := by
  induction k generalizing acc with
  | zero => simp [v8]
  | succ k ih =>
    rw [List.replicate_succ, v8_cons, ih, Nat.pow_succ]
    have : (48 : UInt8).toNat - 48 = 0 := by decide
    rw [this, Nat.add_zero, Nat.mul_assoc, Nat.mul_comm 8]

/-! ### What ends a number -/
def isEnd (c : UInt8) : Prop := c = 32 ∨ c = 0
def allEnd (l : List UInt8) : Prop := ∀ c ∈ l, isEnd c
theorem d8_noEnd {c : UInt8} (h : d8 c) : ¬ isEnd c := by
  unfold d8 at h
  rintro (rfl | rfl)
  · have : (32 : UInt8).toNat = 32 := rfl
    omega
  · have : (0 : UInt8).toNat = 0 := rfl
    omega
/-- t is l without what ends it at either side. -/
def TrimTo (l t : List UInt8) : Prop := ∃ a b, l = a ++ t ++ b ∧ allEnd a ∧ allEnd b ∧ (∀ c, t.head? = some c → ¬ isEnd c) ∧ (∀ c, t.getLast? = some c → ¬ isEnd c)
/-- A list whose first sign ends nothing: what is trimmed off stands behind. -/
theorem trim_head {l t : List UInt8} {c : UInt8} {r : List UInt8} (h : TrimTo l t) (hl : l = c :: r) (hc : ¬ isEnd c) : ∃ b, l = t ++ b ∧ allEnd b ∧ t ≠ [] := by
  obtain ⟨a, b, e, ha, hb, h1, h2⟩ := h
  cases a with
  | nil =>
    rw [List.nil_append] at e
    refine ⟨b, e, hb, fun ht => ?_⟩
    rw [ht, List.nil_append, hl] at e
    exact hc (hb c (by rw [← e]; simp))
  | cons x a =>
    rw [hl, List.cons_append, List.cons_append] at e
    have e1 := (List.cons.inj e).1
    exact absurd (ha c (by rw [e1]; simp)) hc
/-- Digits, and behind them what ends them: the digits are left. -/
theorem trim_digits {d e t : List UInt8} (h : TrimTo (d ++ e) t) (hd : all8 d) (hn : d ≠ []) (he : allEnd e) : t = d := by
  obtain ⟨c, r, hcr⟩ : ∃ c r, d = c :: r := by
    cases d with
    | nil => exact absurd rfl hn
    | cons c r => exact ⟨c, r, rfl⟩
  have hc : ¬ isEnd c := d8_noEnd (hd c (by rw [hcr]; simp))
  obtain ⟨b, e1, hb, ht⟩ := trim_head h (c := c) (r := r ++ e) (by rw [hcr]; rfl) hc
  obtain ⟨a', b', e', _, _, _, hlast⟩ := h
  -- t is no longer than d, and no shorter
  rcases Nat.lt_or_ge d.length t.length with hlt | hge
  · exfalso
    -- the last sign of t lies in e
    have hlen := congrArg List.length e1
    rw [List.length_append, List.length_append] at hlen
    obtain ⟨x, hx⟩ : ∃ x, t.getLast? = some x := by
      cases hg : t.getLast? with
      | none => exact absurd (List.getLast?_eq_none_iff.1 hg) ht
      | some x => exact ⟨x, rfl⟩
    have hxe : x ∈ e := by
      have h2 : t = d ++ e.take (t.length - d.length) := by
        have h3 : (d ++ e).take t.length = t := by rw [e1, List.take_left' rfl]
        rw [List.take_append, List.take_of_length_le (by omega)] at h3
        exact h3.symm
      rw [h2, List.getLast?_append] at hx
      have h4 : e.take (t.length - d.length) ≠ [] := by
        intro h5
        have := congrArg List.length h5
        rw [List.length_take, List.length_nil] at this
        omega
      cases hg : (e.take (t.length - d.length)).getLast? with
      | none => exact absurd (List.getLast?_eq_none_iff.1 hg) h4
      | some y =>
        rw [hg] at hx
        have : y = x := by simpa using hx
        rw [← this]
        exact List.mem_of_mem_take (List.mem_of_getLast? hg)
    exact hlast x hx (he x hxe)
  · rcases Nat.lt_or_ge t.length d.length with hlt | hge2
    · exfalso
      -- a digit lies in b
      have h3 : (d ++ e).drop t.length = b := by rw [e1, List.drop_left' rfl]
      rw [List.drop_append_of_le_length (by omega)] at h3
      obtain ⟨y, ys, hy⟩ : ∃ y ys, d.drop t.length = y :: ys := by
        cases hq : d.drop t.length with
        | nil =>
          have := congrArg List.length hq
          rw [List.length_drop, List.length_nil] at this
          omega
        | cons y ys => exact ⟨y, ys, rfl⟩
      have hyd : y ∈ d := List.mem_of_mem_drop (by rw [hy]; simp)
      exact d8_noEnd (hd y hyd) (hb y (by rw [← h3, hy]; simp))
    · have h3 : (d ++ e).take t.length = t := by rw [e1, List.take_left' rfl]
      rw [List.take_left' (by omega)] at h3
      exact h3.symm
/-- Another sign among the digits stays. -/
theorem trim_bad {d r t : List UInt8} {x : UInt8} (h : TrimTo (d ++ x :: r) t) (hd : all8 d) (hx : ¬ isEnd x) : ∃ r', t = d ++ x :: r' := by
  obtain ⟨c, q, hcq, hc⟩ : ∃ c q, d ++ x :: r = c :: q ∧ ¬ isEnd c := by
    cases hd' : d with
    | nil => exact ⟨x, r, rfl, hx⟩
    | cons c q => exact ⟨c, q ++ x :: r, rfl, d8_noEnd (hd c (by rw [hd']; simp))⟩
  obtain ⟨b, e1, hb, ht⟩ := trim_head h hcq hc
  rcases Nat.lt_or_ge d.length t.length with hlt | hge
  · have h3 : (d ++ x :: r).take t.length = t := by rw [e1, List.take_left' rfl]
    rw [List.take_append, List.take_of_length_le (by omega)] at h3
    obtain ⟨m, hm⟩ : ∃ m, t.length - d.length = m + 1 := ⟨t.length - d.length - 1, by omega⟩
    rw [hm, List.take_succ_cons] at h3
    exact ⟨_, h3.symm⟩
  · exfalso
    have h3 : (d ++ x :: r).drop t.length = b := by rw [e1, List.drop_left' rfl]
    rw [List.drop_append_of_le_length hge] at h3
    exact hx (hb x (by rw [← h3]; simp))

/-! ### The string up to the first byte 0 -/
def upTo0 (l : List UInt8) : List UInt8 := l.take (l.findIdx (· == 0))
theorem upTo0_digits {d : List UInt8} (hd : all8 d) : upTo0 d = d := by
  unfold upTo0
  apply List.take_of_length_le
  rw [List.findIdx_eq_length.2]
  · exact Nat.le_refl _
  · intro c hc
    have := hd c hc
    unfold d8 at this
    have h2 : c ≠ 0 := fun e => by rw [e] at this; have : (0 : UInt8).toNat = 0 := rfl; omega
    simpa using h2
theorem upTo0_bad {d r : List UInt8} {x : UInt8} (hd : all8 d) (hx : x ≠ 0) : x ∈ upTo0 (d ++ x :: r) := by
  unfold upTo0
  have hidx : d.length < (d ++ x :: r).findIdx (· == 0) := by
    rw [List.findIdx_append]
    have h0 : d.findIdx (· == 0) = d.length := by
      rw [List.findIdx_eq_length]
      intro c hc
      have := hd c hc
      unfold d8 at this
      have h2 : c ≠ 0 := fun e => by rw [e] at this; have : (0 : UInt8).toNat = 0 := rfl; omega
      simpa using h2
    rw [h0, if_neg (by omega), List.findIdx_cons]
    have h3 : (x == 0) = false := by simpa using hx
    rw [h3]
    simp
  rw [List.take_append]
  apply List.mem_append_right
  obtain ⟨m, hm⟩ : ∃ m, (d ++ x :: r).findIdx (· == 0) - d.length = m + 1 := ⟨(d ++ x :: r).findIdx (· == 0) - d.length - 1, by omega⟩
  rw [hm, List.take_succ_cons]
  simp

/-! ### Numbers in base 256 -/
def bv (acc : Nat) (l : List UInt8) : Nat := l.foldl (fun a c => a * 256 + c.toNat) acc
theorem bv_cons (acc : Nat) (c : UInt8) (l : List UInt8) : bv acc (c :: l) = bv (acc * 256 + c.toNat) l := by unfold bv; rw [List.foldl_cons]
theorem bv_snoc (acc : Nat) (c : UInt8) (l : List UInt8) : bv acc (l ++ [c]) = bv acc l * 256 + c.toNat := by simp [bv]
theorem bv_app (acc : Nat) (a b : List UInt8) : bv acc (a ++ b) = bv (bv acc a) b := by simp [bv]
theorem bv_ge : ∀ (l : List UInt8) (acc : Nat), acc ≤ bv acc l
  | [], acc => Nat.le_refl _
  | c :: l, acc => by
    have := bv_ge l (acc * 256 + c.toNat)
    rw [bv_cons]
    omega
theorem bv_grow {l : List UInt8} {acc : Nat} (h : l ≠ []) : acc * 256 ≤ bv acc l := by
  cases l with
  | nil => exact absurd rfl h
  | cons c l =>
    rw [bv_cons]
    exact Nat.le_trans (Nat.le_add_right _ _) (bv_ge l (acc * 256 + c.toNat))
theorem bv_acc : ∀ (l : List UInt8) (acc : Nat), bv acc l = acc * 256 ^ l.length + bv 0 l
  | [], acc => by simp [bv]
  | c :: l, acc => by
    rw [bv_cons, bv_acc l, bv_cons 0, bv_acc l (0 * 256 + c.toNat), List.length_cons, Nat.pow_succ]
    have e : (acc * 256 + c.toNat) * 256 ^ l.length = acc * (256 ^ l.length * 256) + (0 * 256 + c.toNat) * 256 ^ l.length := by
      rw [Nat.add_mul, Nat.mul_assoc, Nat.mul_comm 256, Nat.zero_mul, Nat.zero_add]
    omega
theorem bv_bound : ∀ (l : List UInt8) (acc : Nat), bv acc l < (acc + 1) * 256 ^ l.length
  | [], acc => by simp [bv]
  | c :: l, acc => by
    have := bv_bound l (acc * 256 + c.toNat)
    have hc := c.toNat_lt
    rw [bv_cons, List.length_cons, Nat.pow_succ]
    have e : (acc * 256 + c.toNat + 1) * 256 ^ l.length ≤ (acc * 256 + 256) * 256 ^ l.length := Nat.mul_le_mul_right _ (by omega)
    have e2 : (acc * 256 + 256) * 256 ^ l.length = (acc + 1) * (256 ^ l.length * 256) := by
      rw [show acc * 256 + 256 = (acc + 1) * 256 by omega, Nat.mul_assoc, Nat.mul_comm 256]
    omega
end Go.Proofs.YtepeehjajhehfaaGreatDoor
namespace Go.Proofs.YtepeehjajhehfaaGreatDoor
open Go.RowKit

theorem tmod_neg_fix (x n : Int) (hn : 0 < n) (hx : x < 0) : x.tmod n = if x % n = 0 then 0 else x % n - n := by
  have h := Int.tmod_eq_emod (a := x) (b := n)
  rw [h]
  have hd : (n ∣ x) ↔ x % n = 0 := Int.dvd_iff_emod_eq_zero
  have hnat : (n.natAbs : Int) = n := by omega
  by_cases h0 : x % n = 0
  · have : n ∣ x := hd.2 h0
    simp [h0, this]
  · have : ¬ n ∣ x := fun hh => h0 (hd.1 hh)
    have hx' : ¬ 0 ≤ x := by omega
    simp [h0, this, hx', hnat]

set_option maxRecDepth 20000 in
set_option maxHeartbeats 400000 in
theorem below_any (x n : Int) (w : World) (hx : -9223372036854775808 ≤ x) (hx' : x ≤ 9223372036854775807) (hn : 0 < n) (hn' : n ≤ 4611686018427387904) :
    Calls Tryz.prog 10 #[.int .i64 x, .int .i64 n] w fun e w' => e = .returned (.int .i64 (x % n)) ∧ w = w' := by
  have hn0 : (n == 0) = false := by simp; omega
  have hm1 := Int.emod_nonneg x (show n ≠ 0 by omega)
  have hm2 := Int.emod_lt_of_pos x hn
  by_cases h0 : 0 ≤ x
  · go_enter Tryz.func10, Tryz.ntmps10
    go_wp2
    go_ret
    exact ⟨rfl, rfl⟩
  · have ht := tmod_neg_fix x n hn (by omega)
    by_cases hz : x % n = 0
    · rw [if_pos hz] at ht
      have HZ := Lib.hid hz
      clear hz
      go_enter Tryz.func10, Tryz.ntmps10
      go_wp2
      go_ret
      exact ⟨by rw [HZ.out]; rfl, rfl⟩
    · rw [if_neg hz] at ht
      go_enter Tryz.func10, Tryz.ntmps10
      go_wp2
      go_ret
      exact ⟨rfl, rfl⟩
end Go.Proofs.YtepeehjajhehfaaGreatDoor
namespace Go.Proofs.YtepeehjajhehfaaGreatDoor
open Go.RowKit Go.PlainAid
set_option linter.unusedVariables false

/-- Whether so many octal digits have room for a number. -/
def fitsO (j : Nat) (n : Int) : Bool := decide (0 ≤ n) && decide (n < ((8 ^ j : Nat) : Int))
def FitOP (j : Nat) (n : Int) (w : World) (e : Ending) (w' : World) : Prop := e = .returned (.bool (fitsO j n)) ∧ w = w'
theorem fitsO_yes {j : Nat} {n : Int} {p : Int} (hp : ((8 ^ j : Nat) : Int) = p) (h1 : 0 ≤ n) (h2 : n < p) : fitsO j n = true := by simp [fitsO, hp, h1, h2]
theorem fitsO_no {j : Nat} {n : Int} {p : Int} (hp : ((8 ^ j : Nat) : Int) = p) (h : ¬ (0 ≤ n ∧ n < p)) : fitsO j n = false := by
  unfold fitsO
  rw [hp]
  simp only [Bool.and_eq_false_iff, decide_eq_false_iff_not]
  omega
theorem o8_next (t : Nat) (n : Int) : n / ((8 ^ t : Nat) : Int) / 8 = n / ((8 ^ (t + 1) : Nat) : Int) := by
  rw [Int.ediv_ediv_of_nonneg (Int.natCast_nonneg _), Nat.pow_succ, Int.natCast_mul]
  rfl
theorem o8_zero {t : Nat} {n : Int} (h : 0 ≤ n) : n / ((8 ^ t : Nat) : Int) = 0 ↔ n < ((8 ^ t : Nat) : Int) := by
  have hp : (0 : Int) < ((8 ^ t : Nat) : Int) := Int.ofNat_lt.2 (Nat.pow_pos (by omega))
  constructor
  · intro e
    have h1 := Int.emod_lt_of_pos n hp
    have h2 := Int.mul_ediv_add_emod n ((8 ^ t : Nat) : Int)
    rw [e, Int.mul_zero] at h2
    omega
  · exact fun e => Int.ediv_eq_zero_of_lt h e

set_option maxHeartbeats 800000 in
set_option maxRecDepth 20000 in
theorem specFitsO (j : Nat) (z n : Int) (w : World) (hz : z = (j : Int) + 1) (hj : j ≤ 21) (h1 : -9223372036854775808 ≤ n) (h2 : n ≤ 9223372036854775807) :
    Calls Tryz.prog 46 #[.int .i64 z, .int .i64 n] w (FitOP j n w) := by
  by_cases hn : n < 0
  · have HB : Hid (fitsO j n = false) := Lib.hid (by unfold fitsO; rw [decide_eq_false (by omega : ¬ 0 ≤ n)]; rfl)
    go_enter Tryz.func46, Tryz.ntmps46
    go_wp2
    go_ret
    exact ⟨by rw [HB.out]; rfl, rfl⟩
  · subst hz
    have hj1 : ¬ (j : Int) + 1 < 1 := by omega
    have hmin : min (j : Int) 22 = (j : Int) := by omega
    have HN : Hid (0 ≤ n) := Lib.hid (by omega)
    go_enter Tryz.func46, Tryz.ntmps46
    go_wp2
    go_loop [1, 14] (fun v1 v14 => ∃ k : Nat, k ≤ j ∧ v14 = .int .i64 k ∧ ∃ q : Int, v1 = .int .i64 q ∧ -9223372036854775808 ≤ q ∧ q ≤ 9223372036854775807 ∧ Hid (q = n / ((8 ^ k : Nat) : Int))) (fun _ v14 => j - (intOf v14).toNat)
    case atStart => exact ⟨0, by omega, rfl, n, rfl, h1, h2, Lib.hid (by simp)⟩
    case round =>
      obtain ⟨k, hk, rfl, q, rfl, hq1, hq2, hQ⟩ := hrel
      by_cases hkj : k < j
      · have HQ2 : Hid (q / 8 = n / ((8 ^ (k + 1) : Nat) : Int)) := Lib.hid (by rw [← o8_next, hQ.out])
        have hkj' : (k : Int) < (j : Int) := by omega
        have hb1 : -9223372036854775808 ≤ q / 8 := by omega
        have hb2 : q / 8 ≤ 9223372036854775807 := by omega
        go_wp2
        exact ⟨⟨k + 1, by omega, by rw [Int.natCast_add]; rfl, q / 8, rfl, hb1, hb2, HQ2⟩, by simp [intOf]; omega⟩
      · obtain rfl : k = j := by omega
        have HZ := Lib.hid (o8_zero (t := k) HN.out)
        rw [← hQ.out] at HZ
        by_cases hq0 : q = 0
        · have HB : Hid (fitsO k n = true) := Lib.hid (fitsO_yes rfl HN.out (HZ.out.1 hq0))
          have hq0' : (q == 0) = true := by rw [beq_iff_eq]; exact hq0
          clear hq0
          go_wp2
          go_ret
          exact ⟨by rw [HB.out]; rfl, rfl⟩
        · have HB : Hid (fitsO k n = false) := Lib.hid (fitsO_no rfl (fun h => hq0 (HZ.out.2 h.2)))
          have hq0' : (q == 0) = false := by rw [beq_eq_false_iff_ne]; exact hq0
          clear hq0
          go_wp2
          go_ret
          exact ⟨by rw [HB.out]; rfl, rfl⟩

set_option maxHeartbeats 400000 in
set_option maxRecDepth 20000 in
theorem fits8_1 (n : Int) (w : World) (h1 : -9223372036854775808 ≤ n) (h2 : n ≤ 9223372036854775807) : Calls Tryz.prog 78 #[.int .i64 2, .int .i64 n] w (FitOP 1 n w) := by
  by_cases c1 : 0 ≤ n
  · by_cases c2 : n < 8
    · have HB := Lib.hid (fitsO_yes (j := 1) (n := n) (p := 8) (by decide) c1 c2)
      go_enter Tryz.func78, Tryz.ntmps78
      go_wp2
      go_ret
      exact ⟨by rw [HB.out]; rfl, rfl⟩
    · have HB := Lib.hid (fitsO_no (j := 1) (n := n) (p := 8) (by decide) (by omega))
      go_enter Tryz.func78, Tryz.ntmps78
      go_wp2
      go_ret
      exact ⟨by rw [HB.out]; rfl, rfl⟩
  · have HB := Lib.hid (fitsO_no (j := 1) (n := n) (p := 8) (by decide) (by omega))
    go_enter Tryz.func78, Tryz.ntmps78
    go_wp2
    go_ret
    exact ⟨by rw [HB.out]; rfl, rfl⟩

set_option maxHeartbeats 400000 in
set_option maxRecDepth 20000 in
theorem fits8_2 (n : Int) (w : World) (h1 : -9223372036854775808 ≤ n) (h2 : n ≤ 9223372036854775807) : Calls Tryz.prog 78 #[.int .i64 3, .int .i64 n] w (FitOP 2 n w) := by
  by_cases c1 : 0 ≤ n
  · by_cases c2 : n < 64
    · have HB := Lib.hid (fitsO_yes (j := 2) (n := n) (p := 64) (by decide) c1 c2)
      go_enter Tryz.func78, Tryz.ntmps78
      go_wp2
      go_ret
      exact ⟨by rw [HB.out]; rfl, rfl⟩
    · have HB := Lib.hid (fitsO_no (j := 2) (n := n) (p := 64) (by decide) (by omega))
      go_enter Tryz.func78, Tryz.ntmps78
      go_wp2
      go_ret
      exact ⟨by rw [HB.out]; rfl, rfl⟩
  · have HB := Lib.hid (fitsO_no (j := 2) (n := n) (p := 64) (by decide) (by omega))
    go_enter Tryz.func78, Tryz.ntmps78
    go_wp2
    go_ret
    exact ⟨by rw [HB.out]; rfl, rfl⟩

set_option maxHeartbeats 400000 in
set_option maxRecDepth 20000 in
theorem fits8_3 (n : Int) (w : World) (h1 : -9223372036854775808 ≤ n) (h2 : n ≤ 9223372036854775807) : Calls Tryz.prog 78 #[.int .i64 4, .int .i64 n] w (FitOP 3 n w) := by
  by_cases c1 : 0 ≤ n
  · by_cases c2 : n < 512
    · have HB := Lib.hid (fitsO_yes (j := 3) (n := n) (p := 512) (by decide) c1 c2)
      go_enter Tryz.func78, Tryz.ntmps78
      go_wp2
      go_ret
      exact ⟨by rw [HB.out]; rfl, rfl⟩
    · have HB := Lib.hid (fitsO_no (j := 3) (n := n) (p := 512) (by decide) (by omega))
      go_enter Tryz.func78, Tryz.ntmps78
      go_wp2
      go_ret
      exact ⟨by rw [HB.out]; rfl, rfl⟩
  · have HB := Lib.hid (fitsO_no (j := 3) (n := n) (p := 512) (by decide) (by omega))
    go_enter Tryz.func78, Tryz.ntmps78
    go_wp2
    go_ret
    exact ⟨by rw [HB.out]; rfl, rfl⟩

set_option maxHeartbeats 400000 in
set_option maxRecDepth 20000 in
theorem fits8_4 (n : Int) (w : World) (h1 : -9223372036854775808 ≤ n) (h2 : n ≤ 9223372036854775807) : Calls Tryz.prog 78 #[.int .i64 5, .int .i64 n] w (FitOP 4 n w) := by
  by_cases c1 : 0 ≤ n
  · by_cases c2 : n < 4096
    · have HB := Lib.hid (fitsO_yes (j := 4) (n := n) (p := 4096) (by decide) c1 c2)
      go_enter Tryz.func78, Tryz.ntmps78
      go_wp2
      go_ret
      exact ⟨by rw [HB.out]; rfl, rfl⟩
    · have HB := Lib.hid (fitsO_no (j := 4) (n := n) (p := 4096) (by decide) (by omega))
      go_enter Tryz.func78, Tryz.ntmps78
      go_wp2
      go_ret
      exact ⟨by rw [HB.out]; rfl, rfl⟩
  · have HB := Lib.hid (fitsO_no (j := 4) (n := n) (p := 4096) (by decide) (by omega))
    go_enter Tryz.func78, Tryz.ntmps78
    go_wp2
    go_ret
    exact ⟨by rw [HB.out]; rfl, rfl⟩

set_option maxHeartbeats 400000 in
set_option maxRecDepth 20000 in
theorem fits8_5 (n : Int) (w : World) (h1 : -9223372036854775808 ≤ n) (h2 : n ≤ 9223372036854775807) : Calls Tryz.prog 78 #[.int .i64 6, .int .i64 n] w (FitOP 5 n w) := by
  by_cases c1 : 0 ≤ n
  · by_cases c2 : n < 32768
    · have HB := Lib.hid (fitsO_yes (j := 5) (n := n) (p := 32768) (by decide) c1 c2)
      go_enter Tryz.func78, Tryz.ntmps78
      go_wp2
      go_ret
      exact ⟨by rw [HB.out]; rfl, rfl⟩
    · have HB := Lib.hid (fitsO_no (j := 5) (n := n) (p := 32768) (by decide) (by omega))
      go_enter Tryz.func78, Tryz.ntmps78
      go_wp2
      go_ret
      exact ⟨by rw [HB.out]; rfl, rfl⟩
  · have HB := Lib.hid (fitsO_no (j := 5) (n := n) (p := 32768) (by decide) (by omega))
    go_enter Tryz.func78, Tryz.ntmps78
    go_wp2
    go_ret
    exact ⟨by rw [HB.out]; rfl, rfl⟩

set_option maxHeartbeats 400000 in
set_option maxRecDepth 20000 in
theorem fits8_6 (n : Int) (w : World) (h1 : -9223372036854775808 ≤ n) (h2 : n ≤ 9223372036854775807) : Calls Tryz.prog 78 #[.int .i64 7, .int .i64 n] w (FitOP 6 n w) := by
  by_cases c1 : 0 ≤ n
  · by_cases c2 : n < 262144
    · have HB := Lib.hid (fitsO_yes (j := 6) (n := n) (p := 262144) (by decide) c1 c2)
      go_enter Tryz.func78, Tryz.ntmps78
      go_wp2
      go_ret
      exact ⟨by rw [HB.out]; rfl, rfl⟩
    · have HB := Lib.hid (fitsO_no (j := 6) (n := n) (p := 262144) (by decide) (by omega))
      go_enter Tryz.func78, Tryz.ntmps78
      go_wp2
      go_ret
      exact ⟨by rw [HB.out]; rfl, rfl⟩
  · have HB := Lib.hid (fitsO_no (j := 6) (n := n) (p := 262144) (by decide) (by omega))
    go_enter Tryz.func78, Tryz.ntmps78
    go_wp2
    go_ret
    exact ⟨by rw [HB.out]; rfl, rfl⟩

set_option maxHeartbeats 400000 in
set_option maxRecDepth 20000 in
theorem fits8_7 (n : Int) (w : World) (h1 : -9223372036854775808 ≤ n) (h2 : n ≤ 9223372036854775807) : Calls Tryz.prog 78 #[.int .i64 8, .int .i64 n] w (FitOP 7 n w) := by
  by_cases c1 : 0 ≤ n
  · by_cases c2 : n < 2097152
    · have HB := Lib.hid (fitsO_yes (j := 7) (n := n) (p := 2097152) (by decide) c1 c2)
      go_enter Tryz.func78, Tryz.ntmps78
      go_wp2
      go_ret
      exact ⟨by rw [HB.out]; rfl, rfl⟩
    · have HB := Lib.hid (fitsO_no (j := 7) (n := n) (p := 2097152) (by decide) (by omega))
      go_enter Tryz.func78, Tryz.ntmps78
      go_wp2
      go_ret
      exact ⟨by rw [HB.out]; rfl, rfl⟩
  · have HB := Lib.hid (fitsO_no (j := 7) (n := n) (p := 2097152) (by decide) (by omega))
    go_enter Tryz.func78, Tryz.ntmps78
    go_wp2
    go_ret
    exact ⟨by rw [HB.out]; rfl, rfl⟩

set_option maxHeartbeats 400000 in
set_option maxRecDepth 20000 in
theorem fits8_8 (n : Int) (w : World) (h1 : -9223372036854775808 ≤ n) (h2 : n ≤ 9223372036854775807) : Calls Tryz.prog 78 #[.int .i64 9, .int .i64 n] w (FitOP 8 n w) := by
  by_cases c1 : 0 ≤ n
  · by_cases c2 : n < 16777216
    · have HB := Lib.hid (fitsO_yes (j := 8) (n := n) (p := 16777216) (by decide) c1 c2)
      go_enter Tryz.func78, Tryz.ntmps78
      go_wp2
      go_ret
      exact ⟨by rw [HB.out]; rfl, rfl⟩
    · have HB := Lib.hid (fitsO_no (j := 8) (n := n) (p := 16777216) (by decide) (by omega))
      go_enter Tryz.func78, Tryz.ntmps78
      go_wp2
      go_ret
      exact ⟨by rw [HB.out]; rfl, rfl⟩
  · have HB := Lib.hid (fitsO_no (j := 8) (n := n) (p := 16777216) (by decide) (by omega))
    go_enter Tryz.func78, Tryz.ntmps78
    go_wp2
    go_ret
    exact ⟨by rw [HB.out]; rfl, rfl⟩

set_option maxHeartbeats 400000 in
set_option maxRecDepth 20000 in
theorem fits8_9 (n : Int) (w : World) (h1 : -9223372036854775808 ≤ n) (h2 : n ≤ 9223372036854775807) : Calls Tryz.prog 78 #[.int .i64 10, .int .i64 n] w (FitOP 9 n w) := by
  by_cases c1 : 0 ≤ n
  · by_cases c2 : n < 134217728
    · have HB := Lib.hid (fitsO_yes (j := 9) (n := n) (p := 134217728) (by decide) c1 c2)
      go_enter Tryz.func78, Tryz.ntmps78
      go_wp2
      go_ret
      exact ⟨by rw [HB.out]; rfl, rfl⟩
    · have HB := Lib.hid (fitsO_no (j := 9) (n := n) (p := 134217728) (by decide) (by omega))
      go_enter Tryz.func78, Tryz.ntmps78
      go_wp2
      go_ret
      exact ⟨by rw [HB.out]; rfl, rfl⟩
  · have HB := Lib.hid (fitsO_no (j := 9) (n := n) (p := 134217728) (by decide) (by omega))
    go_enter Tryz.func78, Tryz.ntmps78
    go_wp2
    go_ret
    exact ⟨by rw [HB.out]; rfl, rfl⟩

set_option maxHeartbeats 400000 in
set_option maxRecDepth 20000 in
theorem fits8_10 (n : Int) (w : World) (h1 : -9223372036854775808 ≤ n) (h2 : n ≤ 9223372036854775807) : Calls Tryz.prog 78 #[.int .i64 11, .int .i64 n] w (FitOP 10 n w) := by
  by_cases c1 : 0 ≤ n
  · by_cases c2 : n < 1073741824
    · have HB := Lib.hid (fitsO_yes (j := 10) (n := n) (p := 1073741824) (by decide) c1 c2)
      go_enter Tryz.func78, Tryz.ntmps78
      go_wp2
      go_ret
      exact ⟨by rw [HB.out]; rfl, rfl⟩
    · have HB := Lib.hid (fitsO_no (j := 10) (n := n) (p := 1073741824) (by decide) (by omega))
      go_enter Tryz.func78, Tryz.ntmps78
      go_wp2
      go_ret
      exact ⟨by rw [HB.out]; rfl, rfl⟩
  · have HB := Lib.hid (fitsO_no (j := 10) (n := n) (p := 1073741824) (by decide) (by omega))
    go_enter Tryz.func78, Tryz.ntmps78
    go_wp2
    go_ret
    exact ⟨by rw [HB.out]; rfl, rfl⟩

set_option maxHeartbeats 400000 in
set_option maxRecDepth 20000 in
theorem fits8_11 (n : Int) (w : World) (h1 : -9223372036854775808 ≤ n) (h2 : n ≤ 9223372036854775807) : Calls Tryz.prog 78 #[.int .i64 12, .int .i64 n] w (FitOP 11 n w) := by
  by_cases c1 : 0 ≤ n
  · by_cases c2 : n < 8589934592
    · have HB := Lib.hid (fitsO_yes (j := 11) (n := n) (p := 8589934592) (by decide) c1 c2)
      go_enter Tryz.func78, Tryz.ntmps78
      go_wp2
      go_ret
      exact ⟨by rw [HB.out]; rfl, rfl⟩
    · have HB := Lib.hid (fitsO_no (j := 11) (n := n) (p := 8589934592) (by decide) (by omega))
      go_enter Tryz.func78, Tryz.ntmps78
      go_wp2
      go_ret
      exact ⟨by rw [HB.out]; rfl, rfl⟩
  · have HB := Lib.hid (fitsO_no (j := 11) (n := n) (p := 8589934592) (by decide) (by omega))
    go_enter Tryz.func78, Tryz.ntmps78
    go_wp2
    go_ret
    exact ⟨by rw [HB.out]; rfl, rfl⟩

set_option maxHeartbeats 400000 in
set_option maxRecDepth 20000 in
theorem fits8_12 (n : Int) (w : World) (h1 : -9223372036854775808 ≤ n) (h2 : n ≤ 9223372036854775807) : Calls Tryz.prog 78 #[.int .i64 13, .int .i64 n] w (FitOP 12 n w) := by
  by_cases c1 : 0 ≤ n
  · by_cases c2 : n < 68719476736
    · have HB := Lib.hid (fitsO_yes (j := 12) (n := n) (p := 68719476736) (by decide) c1 c2)
      go_enter Tryz.func78, Tryz.ntmps78
      go_wp2
      go_ret
      exact ⟨by rw [HB.out]; rfl, rfl⟩
    · have HB := Lib.hid (fitsO_no (j := 12) (n := n) (p := 68719476736) (by decide) (by omega))
      go_enter Tryz.func78, Tryz.ntmps78
      go_wp2
      go_ret
      exact ⟨by rw [HB.out]; rfl, rfl⟩
  · have HB := Lib.hid (fitsO_no (j := 12) (n := n) (p := 68719476736) (by decide) (by omega))
    go_enter Tryz.func78, Tryz.ntmps78
    go_wp2
    go_ret
    exact ⟨by rw [HB.out]; rfl, rfl⟩

set_option maxHeartbeats 400000 in
set_option maxRecDepth 20000 in
theorem fits8_13 (n : Int) (w : World) (h1 : -9223372036854775808 ≤ n) (h2 : n ≤ 9223372036854775807) : Calls Tryz.prog 78 #[.int .i64 14, .int .i64 n] w (FitOP 13 n w) := by
  by_cases c1 : 0 ≤ n
  · by_cases c2 : n < 549755813888
    · have HB := Lib.hid (fitsO_yes (j := 13) (n := n) (p := 549755813888) (by decide) c1 c2)
      go_enter Tryz.func78, Tryz.ntmps78
      go_wp2
      go_ret
      exact ⟨by rw [HB.out]; rfl, rfl⟩
    · have HB := Lib.hid (fitsO_no (j := 13) (n := n) (p := 549755813888) (by decide) (by omega))
      go_enter Tryz.func78, Tryz.ntmps78
      go_wp2
      go_ret
      exact ⟨by rw [HB.out]; rfl, rfl⟩
  · have HB := Lib.hid (fitsO_no (j := 13) (n := n) (p := 549755813888) (by decide) (by omega))
    go_enter Tryz.func78, Tryz.ntmps78
    go_wp2
    go_ret
    exact ⟨by rw [HB.out]; rfl, rfl⟩

set_option maxHeartbeats 400000 in
set_option maxRecDepth 20000 in
theorem fits8_14 (n : Int) (w : World) (h1 : -9223372036854775808 ≤ n) (h2 : n ≤ 9223372036854775807) : Calls Tryz.prog 78 #[.int .i64 15, .int .i64 n] w (FitOP 14 n w) := by
  by_cases c1 : 0 ≤ n
  · by_cases c2 : n < 4398046511104
    · have HB := Lib.hid (fitsO_yes (j := 14) (n := n) (p := 4398046511104) (by decide) c1 c2)
      go_enter Tryz.func78, Tryz.ntmps78
      go_wp2
      go_ret
      exact ⟨by rw [HB.out]; rfl, rfl⟩
    · have HB := Lib.hid (fitsO_no (j := 14) (n := n) (p := 4398046511104) (by decide) (by omega))
      go_enter Tryz.func78, Tryz.ntmps78
      go_wp2
      go_ret
      exact ⟨by rw [HB.out]; rfl, rfl⟩
  · have HB := Lib.hid (fitsO_no (j := 14) (n := n) (p := 4398046511104) (by decide) (by omega))
    go_enter Tryz.func78, Tryz.ntmps78
    go_wp2
    go_ret
    exact ⟨by rw [HB.out]; rfl, rfl⟩

set_option maxHeartbeats 400000 in
set_option maxRecDepth 20000 in
theorem fits8_15 (n : Int) (w : World) (h1 : -9223372036854775808 ≤ n) (h2 : n ≤ 9223372036854775807) : Calls Tryz.prog 78 #[.int .i64 16, .int .i64 n] w (FitOP 15 n w) := by
  by_cases c1 : 0 ≤ n
  · by_cases c2 : n < 35184372088832
    · have HB := Lib.hid (fitsO_yes (j := 15) (n := n) (p := 35184372088832) (by decide) c1 c2)
      go_enter Tryz.func78, Tryz.ntmps78
      go_wp2
      go_ret
      exact ⟨by rw [HB.out]; rfl, rfl⟩
    · have HB := Lib.hid (fitsO_no (j := 15) (n := n) (p := 35184372088832) (by decide) (by omega))
      go_enter Tryz.func78, Tryz.ntmps78
      go_wp2
      go_ret
      exact ⟨by rw [HB.out]; rfl, rfl⟩
  · have HB := Lib.hid (fitsO_no (j := 15) (n := n) (p := 35184372088832) (by decide) (by omega))
    go_enter Tryz.func78, Tryz.ntmps78
    go_wp2
    go_ret
    exact ⟨by rw [HB.out]; rfl, rfl⟩

set_option maxHeartbeats 400000 in
set_option maxRecDepth 20000 in
theorem fits8_16 (n : Int) (w : World) (h1 : -9223372036854775808 ≤ n) (h2 : n ≤ 9223372036854775807) : Calls Tryz.prog 78 #[.int .i64 17, .int .i64 n] w (FitOP 16 n w) := by
  by_cases c1 : 0 ≤ n
  · by_cases c2 : n < 281474976710656
    · have HB := Lib.hid (fitsO_yes (j := 16) (n := n) (p := 281474976710656) (by decide) c1 c2)
      go_enter Tryz.func78, Tryz.ntmps78
      go_wp2
      go_ret
      exact ⟨by rw [HB.out]; rfl, rfl⟩
    · have HB := Lib.hid (fitsO_no (j := 16) (n := n) (p := 281474976710656) (by decide) (by omega))
      go_enter Tryz.func78, Tryz.ntmps78
      go_wp2
      go_ret
      exact ⟨by rw [HB.out]; rfl, rfl⟩
  · have HB := Lib.hid (fitsO_no (j := 16) (n := n) (p := 281474976710656) (by decide) (by omega))
    go_enter Tryz.func78, Tryz.ntmps78
    go_wp2
    go_ret
    exact ⟨by rw [HB.out]; rfl, rfl⟩

set_option maxHeartbeats 400000 in
set_option maxRecDepth 20000 in
theorem fits8_17 (n : Int) (w : World) (h1 : -9223372036854775808 ≤ n) (h2 : n ≤ 9223372036854775807) : Calls Tryz.prog 78 #[.int .i64 18, .int .i64 n] w (FitOP 17 n w) := by
  by_cases c1 : 0 ≤ n
  · by_cases c2 : n < 2251799813685248
    · have HB := Lib.hid (fitsO_yes (j := 17) (n := n) (p := 2251799813685248) (by decide) c1 c2)
      go_enter Tryz.func78, Tryz.ntmps78
      go_wp2
      go_ret
      exact ⟨by rw [HB.out]; rfl, rfl⟩
    · have HB := Lib.hid (fitsO_no (j := 17) (n := n) (p := 2251799813685248) (by decide) (by omega))
      go_enter Tryz.func78, Tryz.ntmps78
      go_wp2
      go_ret
      exact ⟨by rw [HB.out]; rfl, rfl⟩
  · have HB := Lib.hid (fitsO_no (j := 17) (n := n) (p := 2251799813685248) (by decide) (by omega))
    go_enter Tryz.func78, Tryz.ntmps78
    go_wp2
    go_ret
    exact ⟨by rw [HB.out]; rfl, rfl⟩

set_option maxHeartbeats 400000 in
set_option maxRecDepth 20000 in
theorem fits8_18 (n : Int) (w : World) (h1 : -9223372036854775808 ≤ n) (h2 : n ≤ 9223372036854775807) : Calls Tryz.prog 78 #[.int .i64 19, .int .i64 n] w (FitOP 18 n w) := by
  by_cases c1 : 0 ≤ n
  · by_cases c2 : n < 18014398509481984
    · have HB := Lib.hid (fitsO_yes (j := 18) (n := n) (p := 18014398509481984) (by decide) c1 c2)
      go_enter Tryz.func78, Tryz.ntmps78
      go_wp2
      go_ret
      exact ⟨by rw [HB.out]; rfl, rfl⟩
    · have HB := Lib.hid (fitsO_no (j := 18) (n := n) (p := 18014398509481984) (by decide) (by omega))
      go_enter Tryz.func78, Tryz.ntmps78
      go_wp2
      go_ret
      exact ⟨by rw [HB.out]; rfl, rfl⟩
  · have HB := Lib.hid (fitsO_no (j := 18) (n := n) (p := 18014398509481984) (by decide) (by omega))
    go_enter Tryz.func78, Tryz.ntmps78
    go_wp2
    go_ret
    exact ⟨by rw [HB.out]; rfl, rfl⟩

set_option maxHeartbeats 400000 in
set_option maxRecDepth 20000 in
theorem fits8_19 (n : Int) (w : World) (h1 : -9223372036854775808 ≤ n) (h2 : n ≤ 9223372036854775807) : Calls Tryz.prog 78 #[.int .i64 20, .int .i64 n] w (FitOP 19 n w) := by
  by_cases c1 : 0 ≤ n
  · by_cases c2 : n < 144115188075855872
    · have HB := Lib.hid (fitsO_yes (j := 19) (n := n) (p := 144115188075855872) (by decide) c1 c2)
      go_enter Tryz.func78, Tryz.ntmps78
      go_wp2
      go_ret
      exact ⟨by rw [HB.out]; rfl, rfl⟩
    · have HB := Lib.hid (fitsO_no (j := 19) (n := n) (p := 144115188075855872) (by decide) (by omega))
      go_enter Tryz.func78, Tryz.ntmps78
      go_wp2
      go_ret
      exact ⟨by rw [HB.out]; rfl, rfl⟩
  · have HB := Lib.hid (fitsO_no (j := 19) (n := n) (p := 144115188075855872) (by decide) (by omega))
    go_enter Tryz.func78, Tryz.ntmps78
    go_wp2
    go_ret
    exact ⟨by rw [HB.out]; rfl, rfl⟩

set_option maxHeartbeats 400000 in
set_option maxRecDepth 20000 in
theorem fits8_20 (n : Int) (w : World) (h1 : -9223372036854775808 ≤ n) (h2 : n ≤ 9223372036854775807) : Calls Tryz.prog 78 #[.int .i64 21, .int .i64 n] w (FitOP 20 n w) := by
  by_cases c1 : 0 ≤ n
  · by_cases c2 : n < 1152921504606846976
    · have HB := Lib.hid (fitsO_yes (j := 20) (n := n) (p := 1152921504606846976) (by decide) c1 c2)
      go_enter Tryz.func78, Tryz.ntmps78
      go_wp2
      go_ret
      exact ⟨by rw [HB.out]; rfl, rfl⟩
    · have HB := Lib.hid (fitsO_no (j := 20) (n := n) (p := 1152921504606846976) (by decide) (by omega))
      go_enter Tryz.func78, Tryz.ntmps78
      go_wp2
      go_ret
      exact ⟨by rw [HB.out]; rfl, rfl⟩
  · have HB := Lib.hid (fitsO_no (j := 20) (n := n) (p := 1152921504606846976) (by decide) (by omega))
    go_enter Tryz.func78, Tryz.ntmps78
    go_wp2
    go_ret
    exact ⟨by rw [HB.out]; rfl, rfl⟩

set_option maxHeartbeats 400000 in
set_option maxRecDepth 20000 in
theorem fits8 (j : Nat) (z n : Int) (w : World) (hz : z = (j : Int) + 1) (hj1 : 1 ≤ j) (hj : j ≤ 21) (h1 : -9223372036854775808 ≤ n) (h2 : n ≤ 9223372036854775807) : Calls Tryz.prog 78 #[.int .i64 z, .int .i64 n] w (FitOP j n w) := by
  by_cases hb : j = 21
  · subst hb
    obtain rfl : z = 22 := by omega
    by_cases c1 : 0 ≤ n
    · have HB := Lib.hid (fitsO_yes (j := 21) (n := n) (p := 9223372036854775808) (by decide) c1 (by omega))
      go_enter Tryz.func78, Tryz.ntmps78
      go_wp2
      go_ret
      exact ⟨by rw [HB.out]; rfl, rfl⟩
    · have HB := Lib.hid (fitsO_no (j := 21) (n := n) (p := 9223372036854775808) (by decide) (by omega))
      go_enter Tryz.func78, Tryz.ntmps78
      go_wp2
      go_ret
      exact ⟨by rw [HB.out]; rfl, rfl⟩
  · have hc : j = 1 ∨ j = 2 ∨ j = 3 ∨ j = 4 ∨ j = 5 ∨ j = 6 ∨ j = 7 ∨ j = 8 ∨ j = 9 ∨ j = 10 ∨ j = 11 ∨ j = 12 ∨ j = 13 ∨ j = 14 ∨ j = 15 ∨ j = 16 ∨ j = 17 ∨ j = 18 ∨ j = 19 ∨ j = 20 := by omega
    rcases hc with rfl | rfl | rfl | rfl | rfl | rfl | rfl | rfl | rfl | rfl | rfl | rfl | rfl | rfl | rfl | rfl | rfl | rfl | rfl | rfl
    · obtain rfl : z = 2 := by omega
      exact fits8_1 n w h1 h2
    · obtain rfl : z = 3 := by omega
      exact fits8_2 n w h1 h2
    · obtain rfl : z = 4 := by omega
      exact fits8_3 n w h1 h2
    · obtain rfl : z = 5 := by omega
      exact fits8_4 n w h1 h2
    · obtain rfl : z = 6 := by omega
      exact fits8_5 n w h1 h2
    · obtain rfl : z = 7 := by omega
      exact fits8_6 n w h1 h2
    · obtain rfl : z = 8 := by omega
      exact fits8_7 n w h1 h2
    · obtain rfl : z = 9 := by omega
      exact fits8_8 n w h1 h2
    · obtain rfl : z = 10 := by omega
      exact fits8_9 n w h1 h2
    · obtain rfl : z = 11 := by omega
      exact fits8_10 n w h1 h2
    · obtain rfl : z = 12 := by omega
      exact fits8_11 n w h1 h2
    · obtain rfl : z = 13 := by omega
      exact fits8_12 n w h1 h2
    · obtain rfl : z = 14 := by omega
      exact fits8_13 n w h1 h2
    · obtain rfl : z = 15 := by omega
      exact fits8_14 n w h1 h2
    · obtain rfl : z = 16 := by omega
      exact fits8_15 n w h1 h2
    · obtain rfl : z = 17 := by omega
      exact fits8_16 n w h1 h2
    · obtain rfl : z = 18 := by omega
      exact fits8_17 n w h1 h2
    · obtain rfl : z = 19 := by omega
      exact fits8_18 n w h1 h2
    · obtain rfl : z = 20 := by omega
      exact fits8_19 n w h1 h2
    · obtain rfl : z = 21 := by omega
      exact fits8_20 n w h1 h2

end Go.Proofs.YtepeehjajhehfaaGreatDoor
namespace Go.Proofs.YtepeehjajhehfaaGreatDoor
open Go.RowKit Go.PlainAid
set_option linter.unusedVariables false

theorem byt_of {bs : List UInt8} {k : Nat} (h : k < bs.length) : ∃ x : UInt8, bs[k]? = some x ∧ byt bs k = (x.toNat : Int) := ⟨bs[k], List.getElem?_eq_getElem h, by simp [byt, List.getD, h]⟩
def endI (i : Int) : Prop := i = 32 ∨ i = 0
theorem endI_of (x : UInt8) : endI (x.toNat : Int) ↔ isEnd x := by
  unfold endI isEnd
  constructor
  · rintro (h | h)
    · exact .inl (UInt8.toNat_inj.1 (by have : (32 : UInt8).toNat = 32 := rfl; omega))
    · exact .inr (UInt8.toNat_inj.1 (by have : (0 : UInt8).toNat = 0 := rfl; omega))
  · rintro (rfl | rfl)
    · exact .inl rfl
    · exact .inr rfl
open Classical in
noncomputable def endB (i : Int) : Bool := decide (endI i)
theorem endB_yes {i : Int} (h : endI i) : endB i = true := by simp [endB, h]
theorem endB_no {i : Int} (h : ¬ endI i) : endB i = false := by simp [endB, h]

/-- What spec.Octal says of a field. -/
def OctS (bs : List UInt8) (x v : Int) : Prop :=
  v = 0 ∨ (v = 2 ∧ ∃ d y r, bs = d ++ y :: r ∧ all8 d ∧ ¬ isEnd y ∧ ¬ d8 y) ∨ (v = 1 ∧ ∃ d e, bs = d ++ e ∧ all8 d ∧ d ≠ [] ∧ d.length ≤ 21 ∧ e ≠ [] ∧ allEnd e ∧ x = (v8 0 d : Int))
def OctSP (bs : List UInt8) (w : World) (e : Ending) (w' : World) : Prop := (∃ x v, e = .returned (.tuple #[.int .i64 x, .int .i64 v]) ∧ OctS bs x v) ∧ w = w'
theorem take_at {bs : List UInt8} {k : Nat} {x : UInt8} (h : bs[k]? = some x) : bs.take (k + 1) = bs.take k ++ [x] := by
  obtain ⟨hl, e⟩ := List.getElem?_eq_some_iff.1 h
  rw [List.take_succ_eq_append_getElem hl, e]
theorem all8_take {bs : List UInt8} {k : Nat} {x : UInt8} (h : all8 (bs.take k)) (hx : bs[k]? = some x) (hd : d8 x) : all8 (bs.take (k + 1)) := by
  rw [take_at hx]
  exact all8_app.2 ⟨h, fun c hc => by rw [List.mem_singleton.1 hc]; exact hd⟩
theorem split_at {bs : List UInt8} {k : Nat} {x : UInt8} (h : bs[k]? = some x) : bs = bs.take k ++ x :: bs.drop (k + 1) := by
  obtain ⟨hl, e⟩ := List.getElem?_eq_some_iff.1 h
  have h2 := List.drop_eq_getElem_cons hl
  rw [e] at h2
  rw [← h2, List.take_append_drop]
theorem v8_take {bs : List UInt8} {k : Nat} {x : UInt8} (hx : bs[k]? = some x) (hd : d8 x) (d : Int) (h : (x.toNat : Int) = 48 + d) : ((v8 0 (bs.take (k + 1)) : Nat) : Int) = ((v8 0 (bs.take k) : Nat) : Int) * 8 + d := by
  unfold d8 at hd
  rw [take_at hx, v8_snoc]
  omega
theorem v8_lt {bs : List UInt8} {k i : Nat} (h : all8 (bs.take i)) (hk : k ≤ i) (hi : i ≤ 21) : v8 0 (bs.take k) < 9223372036854775808 := by
  have h1 : all8 (bs.take k) := fun c hc => h c (by
    have : bs.take k = (bs.take i).take k := by rw [List.take_take, Nat.min_eq_left hk]
    rw [this] at hc
    exact List.mem_of_mem_take hc)
  have h2 := v8_bound (bs.take k) 0 h1
  have h3 : (bs.take k).length ≤ 21 := by rw [List.length_take]; omega
  have h4 := Nat.pow_le_pow_right (n := 8) (by omega) h3
  have h5 : (8 : Nat) ^ 21 = 9223372036854775808 := by decide
  omega

end Go.Proofs.YtepeehjajhehfaaGreatDoor
namespace Go.Proofs.YtepeehjajhehfaaGreatDoor
open Go.ChangeShapes Go.WideShapes Go.RowKit

theorem lt_of_cell' {w : World} {p : Addr} {v : Value} (h : w.cell? p = some v) : p.block < w.heap.size := by
  rcases Nat.lt_or_ge p.block w.heap.size with h1 | h1
  · exact h1
  · simp [World.cell?, Array.getElem?_eq_none h1] at h
theorem cellsES' : Tryz.prog.cellsOf 223 = 1 := by kernel_rfl
theorem cellsStr' : Tryz.prog.cellsOf 9 = 1 := by kernel_rfl
theorem starES' : "*" ++ "errors.errorString" = "*errors.errorString" := by decide
theorem rowES' (u : TypeId) (h : Tryz.prog.typeName? 3 u = some "*errors.errorString") : u = 221 :=
  typeName_ptr_named (nm := "errors.errorString") (by rw [starES']; kernel_rfl) (by kernel_rfl) (by decide) u (by rw [starES']; exact h)

/-- A list of sentinels as the rows list them. -/
def sentL (l : List (String × List UInt8)) : List (String × DataW Unit) := l.map fun x => (x.1, .iface "*errors.errorString" (.ptr (.agg [.lit (.string x.2)])))
/-- What a sentinel's variable holds. -/
def errV (a : Addr) : Value := .iface 221 (.pointer (some a))
/-- A sentinel's variable: it holds a pointer to a whole block; both lie below B. -/
structure Err (B : Nat) (w : World) (g : Nat) (a : Addr) : Prop where
  cell : w.cell? ⟨g, 0, none⟩ = some (errV a)
  blk : ∃ c t, w.heap[a.block]? = some (.cells c t (0, 0))
  lg : g < B
  la : a.block < B
theorem Err.below {B C : Nat} {w w' : World} {g : Nat} {a : Addr} (h : Err B w g a) (hb : Below C w w') (hB : B ≤ C) : Err B w' g a := by
  obtain ⟨c, t, hc⟩ := h.blk
  exact ⟨(hb.cell (p := ⟨g, 0, none⟩) (Nat.lt_of_lt_of_le h.lg hB)).trans h.cell, ⟨c, t, (hb.block a.block (Nat.lt_of_lt_of_le h.la hB)).trans hc⟩, h.lg, h.la⟩
/-- .. below a later heap's size. -/
theorem Err.more {w w' : World} {g : Nat} {a : Addr} (h : Err w.heap.size w g a) (hb : Below w.heap.size w w') : Err w'.heap.size w' g a := by
  have h1 := h.below hb (Nat.le_refl _)
  exact ⟨h1.cell, h1.blk, Nat.lt_of_lt_of_le h1.lg hb.size, Nat.lt_of_lt_of_le h1.la hb.size⟩
/-- The variables of the list hold pointers. -/
inductive Held (w : World) : List (String × List UInt8) → List Addr → Prop
  | nil : Held w [] []
  | cons {x l g a al} : Tryz.prog.globalNamed x.1 = some g → Err w.heap.size w g a → Held w l al → Held w (x :: l) (a :: al)

set_option maxRecDepth 100000 in
theorem held_of_vars {w : World} : ∀ (l : List (String × List UInt8)) (ps : List MemPlace), (∀ x ∈ l, ∃ g, Tryz.prog.globalNamed x.1 = some g ∧ (Tryz.prog.globals[g]?).map (·.type) = some 101) →
    DataW.LaidVars Tryz.prog w (sentL l) ps → (∀ b off, MemPlace.cell b off ∈ ps → (∃ c t, w.heap[b]? = some (.cells c t (0, 0))) ∧ ∀ u v, w.cell? ⟨b, off, none⟩ = some (.iface u v) → Value.okWide Tryz.prog w .any 0 u v) →
    ∃ al, Held w l al ∧ (∀ a ∈ al, MemPlace.cell a.block a.off ∈ ps) ∧ (ps.Nodup → al.Nodup)
  | [], ps, _, _, _ => by
    refine ⟨[], Held.nil, ?_, ?_⟩
    · intro a ha; simp at ha
    · intro _; exact List.nodup_nil
  | (n, text) :: r, ps, hg, h, hrows => by
    obtain ⟨g0, t0, cs0, f0, p0, q0, hg0, ht0, hv0, hd0, hr, rfl⟩ := h
    obtain ⟨g1, e1, e2⟩ := hg (n, text) (by simp)
    obtain rfl := Option.some.inj (e1.symm.trans hg0)
    obtain rfl := Option.some.inj (e2.symm.trans ht0)
    obtain ⟨l0⟩ := cs0
    have ok0 : ∀ u v, l0 = [.iface u v] → Value.okWide Tryz.prog w .any 0 u v := fun u v e => by
      subst e
      exact (hrows g1 0 (by simp [MemPlace.row])).2 u v (by simpa using World.var?_cell hg0 hv0 0)
    obtain ⟨a0, s0, rfl, hc0, hs0, hz0, rfl⟩ := errorString_of_trod Tryz.underlying101 rowES' Tryz.underlying221 Tryz.underlying223 rfl rfl Tryz.underlying9 cellsES' cellsStr' hd0 ok0
    obtain ⟨al, h1, h2, h3⟩ := held_of_vars r q0 (fun x hx => hg x (List.mem_cons_of_mem _ hx)) hr (fun b off hb => hrows b off (List.mem_append_right _ hb))
    have hcell : w.cell? ⟨g1, 0, none⟩ = some (errV a0) := by simpa [errV] using World.var?_cell hg0 hv0 0
    have hin0 : MemPlace.cell a0.block a0.off ∈ MemPlace.row a0 1 := by simp [MemPlace.row]
    have herr : Err w.heap.size w g1 a0 := ⟨hcell, (hrows a0.block a0.off (List.mem_append_left _ (List.mem_append_right _ hin0))).1, lt_of_cell' hcell, lt_of_cell' hc0⟩
    refine ⟨a0 :: al, .cons hg0 herr h1, fun a ha => ?_, fun hnd => ?_⟩
    · rcases List.mem_cons.1 ha with rfl | ha
      · exact List.mem_append_left _ (List.mem_append_right _ hin0)
      · exact List.mem_append_right _ (h2 a ha)
    · rw [List.nodup_append] at hnd
      obtain ⟨_, hn2, hn3⟩ := hnd
      refine List.nodup_cons.2 ⟨fun hin => ?_, h3 hn2⟩
      exact hn3 _ (List.mem_append_right _ hin0) _ (h2 a0 hin) rfl

set_option maxRecDepth 100000 in
theorem held_of_laid {w : World} (l : List (String × List UInt8)) (hg : ∀ x ∈ l, ∃ g, Tryz.prog.globalNamed x.1 = some g ∧ (Tryz.prog.globals[g]?).map (·.type) = some 101) (h : laidMet Tryz.prog (sentL l) w) :
    ∃ al, Held w l al ∧ al.Nodup := by
  obtain ⟨ps, hv, hnd, hrows⟩ := h
  obtain ⟨al, h1, _, h3⟩ := held_of_vars l ps hg hv hrows
  exact ⟨al, h1, h3 hnd⟩

theorem infoPtr : ∃ i, Tryz.prog.info? 221 = some i ∧ i.comparable = true := by
  have h : (Tryz.prog.info? 221).map (·.comparable) = some true := by kernel_rfl
  cases e : Tryz.prog.info? 221 with
  | none => simp [e] at h
  | some i => exact ⟨i, rfl, by simpa [e] using h⟩
theorem infoES : ∃ j, Tryz.prog.info? 223 = some j ∧ j.size ≠ 0 := by
  have h : (Tryz.prog.info? 223).map (·.size) = some 1 := by kernel_rfl
  cases e : Tryz.prog.info? 223 with
  | none => simp [e] at h
  | some j =>
    have h1 : j.size = 1 := by simpa [e] using h
    exact ⟨j, rfl, by omega⟩
theorem err_eq (w : World) (a : Addr) : (binOp .eql 101 (errV a) (errV a)).run Tryz.prog w = .ok (.bool true) w := by
  obtain ⟨i, h1, h2⟩ := infoPtr
  obtain ⟨j, h3, h4⟩ := infoES
  exact run_eql_iface_ptr_same w a Tryz.underlying101 Tryz.underlying221 h1 h2 h3
theorem err_ne {B B' : Nat} {w : World} {g g' : Nat} {a b : Addr} (ha : Err B w g a) (hb : Err B' w g' b) (hne : a ≠ b) : (binOp .eql 101 (errV a) (errV b)).run Tryz.prog w = .ok (.bool false) w := by
  obtain ⟨i, h1, h2⟩ := infoPtr
  obtain ⟨j, h3, h4⟩ := infoES
  obtain ⟨c, t, hc⟩ := ha.blk
  obtain ⟨c', t', hc'⟩ := hb.blk
  exact run_eql_iface_ptr_other w Tryz.underlying101 Tryz.underlying221 h1 h2 h3 h4 hne hc hc'

end Go.Proofs.YtepeehjajhehfaaGreatDoor
namespace Go.Proofs.YtepeehjajhehfaaGreatDoor
open Go.RowKit Go.PlainAid
set_option linter.unusedVariables false

/-- What ParseUint(s, 8, 64) makes of the bytes behind acc. -/
def p8 : Nat → List UInt8 → Lib.NumEnd Nat
  | acc, [] => .ok acc
  | acc, c :: l => if 48 ≤ c.toNat ∧ c.toNat ≤ 55 then (if 2305843009213693952 ≤ acc then .range else p8 (acc * 8 + (c.toNat - 48)) l) else Lib.NumEnd.syntax
theorem p8_ok : ∀ (l : List UInt8) (acc u : Nat), acc < 18446744073709551616 → (p8 acc l = .ok u ↔ all8 l ∧ v8 acc l = u ∧ u < 18446744073709551616)
  | [], acc, u, ha => by
    simp only [p8]
    constructor
    · intro h
      have h2 := Lib.NumEnd.ok.inj h
      exact ⟨fun c hc => by simp at hc, h2, by omega⟩
    · rintro ⟨_, h, _⟩
      rw [← h]
      rfl
  | c :: l, acc, u, ha => by
    simp only [p8]
    by_cases hd : 48 ≤ c.toNat ∧ c.toNat ≤ 55
    · rw [if_pos hd]
      by_cases h1 : 2305843009213693952 ≤ acc
      · rw [if_pos h1]
        constructor
        · intro h; cases h
        · rintro ⟨_, h, hu⟩
          have := v8_ge l (acc * 8 + (c.toNat - 48))
          rw [v8_cons] at h
          omega
      · rw [if_neg h1, p8_ok l _ u (by omega), v8_cons, all8_cons]
        exact ⟨fun ⟨a, b⟩ => ⟨⟨hd, a⟩, b⟩, fun ⟨⟨_, a⟩, b⟩ => ⟨a, b⟩⟩
    · rw [if_neg hd]
      constructor
      · intro h; cases h
      · rintro ⟨h, _⟩
        exact absurd (all8_cons.1 h).1 hd
set_option maxHeartbeats 8000000 in
set_option maxRecDepth 100000 in
theorem parse8I (t : ByteArray) (hne : t.size ≠ 0) (hmax : t.size ≤ 4611686018427387904) (w : World) :
    Calls Tryz.prog 131 #[.string t, .int .i64 8, .int .i64 64] w fun e w' => e = .returned (Lib.uintTuple 186 (p8 0 t.data.toList)) ∧ w' = Lib.bytesWorld w 5 t := by
  have hemp : t.toList.isEmpty = false := by
    rw [← decide_eq_emptyBytes]
    exact decide_eq_false (fun h => hne (by rw [h]; rfl))
  have hcv := Lib.run_convert_string_bytes (P := Tryz.prog) w 9 35 5 t (u := .string) Tryz.underlying9 Tryz.underlying35 Tryz.underlying5
  have hB : ∀ j, j < t.size → (Lib.bytesWorld w 5 t).cell? ⟨w.heap.size, j, none⟩ = some (.int .u8 (t.data.toList.getD j 0).toNat) := fun j hj => Lib.bytesWorld_cell w 5 t j hj
  obtain ⟨W1, hW1⟩ : ∃ W1, W1 = Lib.bytesWorld w 5 t := ⟨_, rfl⟩
  rw [← hW1] at hcv hB ⊢
  clear hW1
  obtain ⟨bs, hL⟩ : ∃ bs, bs = t.data.toList := ⟨_, rfl⟩
  have hLn : bs.length = t.size := by rw [hL, Lib.size_eq]
  rw [← hL] at hB ⊢
  clear hL
  have hmv : IntKind.u64.wrap (IntKind.u64.wrap 18446744073709551616 - 1) = 18446744073709551615 := by
    rw [IntKind.wrap_u64, IntKind.wrap_u64]
    decide
  go_enter Tryz.func131, Tryz.ntmps131
  go_wp2
  go_loop [12, 13, 101] (fun vu vn vi => ∃ (k acc : Nat) (a : Int), vu = .bool false ∧ vn = .int .u64 a ∧ vi = .int .i64 k ∧ k ≤ t.size ∧ Hid (a = (acc : Int) ∧ acc < 18446744073709551616 ∧ p8 0 bs = p8 acc (bs.drop k)))
    (fun _ _ vi => t.size - (intOf vi).toNat)
  case atStart => exact ⟨0, 0, 0, rfl, rfl, rfl, by omega, rfl, by omega, rfl⟩
  case round =>
    obtain ⟨k, acc, a, rfl, rfl, rfl, hk, hh⟩ := hrel
    obtain ⟨ha, hacc, hdec⟩ := hh.out
    clear hh
    have a0 : 0 ≤ a := by omega
    have a1 : a < 18446744073709551616 := by omega
    by_cases hkn : k < t.size
    · have hc := hB k hkn
      have hdrop : bs.drop k = bs[k]'(by omega) :: bs.drop (k + 1) := List.drop_eq_getElem_cons (by omega)
      have hget : bs.getD k 0 = bs[k]'(by omega) := by simp [List.getD, List.getElem?_eq_getElem (show k < bs.length by omega)]
      rw [hdrop] at hdec
      rw [hget] at hc
      generalize bs[k]'(by omega) = c at hc hdec
      have hc256 : c.toNat < 256 := c.toNat_lt
      clear hB hdrop hget
      by_cases hdig : 48 ≤ c.toNat ∧ c.toNat ≤ 57
      · obtain ⟨hd0, hd1⟩ := hdig
        by_cases h8 : 55 < c.toNat
        · have hF : p8 acc (c :: bs.drop (k + 1)) = Lib.NumEnd.syntax := by simp only [p8]; rw [if_neg (by omega)]
          rw [hF] at hdec
          have hu : IntKind.u8.wrap ((c.toNat : Int) - 48) = (c.toNat : Int) - 48 := IntWalk.u8_in _ ⟨by omega, by omega⟩
          have h88 : (8 : Int) ≤ (c.toNat : Int) - 48 := by omega
          clear hacc hF ha
          go_wp2
          go_ret2
          first | exact ⟨rfl, rfl⟩ | exact ⟨by rw [hdec]; rfl, rfl⟩
        have hu : IntKind.u8.wrap ((c.toNat : Int) - 48) = (c.toNat : Int) - 48 := IntWalk.u8_in _ ⟨by omega, by omega⟩
        have h88 : ¬ (8 : Int) ≤ (c.toNat : Int) - 48 := by omega
        by_cases hcut : 2305843009213693952 ≤ acc
        · have hF : p8 acc (c :: bs.drop (k + 1)) = .range := by simp only [p8]; rw [if_pos (by omega), if_pos hcut]
          rw [hF] at hdec
          have icut : 2305843009213693952 ≤ a := by omega
          clear hcut hacc hF ha
          go_wp2
          go_ret2
          first | exact ⟨rfl, rfl⟩ | exact ⟨by rw [hdec]; rfl, rfl⟩
        · have hF : p8 acc (c :: bs.drop (k + 1)) = p8 (acc * 8 + (c.toNat - 48)) (bs.drop (k + 1)) := by simp only [p8]; rw [if_pos (by omega), if_neg hcut]
          have HN : Hid (a * 8 + ((c.toNat : Int) - 48) = ((acc * 8 + (c.toNat - 48) : Nat) : Int) ∧ acc * 8 + (c.toNat - 48) < 18446744073709551616 ∧ p8 0 bs = p8 (acc * 8 + (c.toNat - 48)) (bs.drop (k + 1))) := Lib.hid ⟨by omega, by omega, hdec.trans hF⟩
          have icut : a < 2305843009213693952 := by omega
          have iov : a * 8 + ((c.toNat : Int) - 48) < 18446744073709551616 := by omega
          clear hcut hacc hF hdec ha
          go_wp2
          refine ⟨⟨k + 1, acc * 8 + (c.toNat - 48), a * 8 + ((c.toNat : Int) - 48), rfl, (by first | rfl | (congr 1; omega)), (by first | rfl | (congr 1; omega)), by omega, HN⟩, by simp [intOf]; omega⟩
      · have hF : p8 acc (c :: bs.drop (k + 1)) = Lib.NumEnd.syntax := by simp only [p8]; rw [if_neg (by omega)]
        rw [hF] at hdec
        clear hacc hF ha
        have hv0 := bits_lo_u8 .or (c.toNat : Int) 32
        have hv1 := bits_hi_u8 .or (c.toNat : Int) 32
        have hu0 := bits_lo_u8 .or 95 32
        have hu1 := bits_hi_u8 .or 95 32
        go_wp2_with (go_at_call 150; refine (Tryz.internal_strconv_lower _ _).mono ?_; rintro e w' ⟨rfl, rfl⟩)
        all_goals go_ret2
        all_goals first | exact ⟨rfl, rfl⟩ | exact ⟨by rw [hdec]; rfl, rfl⟩
    · have hkk : k = t.size := by omega
      subst hkk
      have hF : p8 acc (bs.drop t.size) = .ok acc := by rw [List.drop_eq_nil_of_le (by omega)]; rfl
      rw [hF] at hdec
      subst ha
      clear hacc hF a0 a1
      go_wp2
      go_ret2
      first | exact ⟨rfl, rfl⟩ | exact ⟨by rw [hdec]; rfl, rfl⟩
end Go.Proofs.YtepeehjajhehfaaGreatDoor
namespace Go.Proofs.YtepeehjajhehfaaGreatDoor
open Go.RowKit Go.PlainAid
set_option linter.unusedVariables false

theorem setInfo : (Tryz.prog.info? 166).map (fun i => (i.zero, i.size)) = some (some (.agg (Array.replicate 256 (.bool false))), 256) := by kernel_rfl
section
variable {P : Program}
/-- A whole array is stored into the block that was made last. -/
theorem wpList_store_new {ops : Array Oper} {rest : List Oper} {op : Oper} {a : Act} {w : World} {Q : Exit → Act → World → Prop} (hgd : op.guard = none) (t : TypeId) (x y : Operand) (ho : op.op = .store t x y)
    (C C' : Array Value) (hx : a.eval x = .pointer (some ⟨w.heap.size, 0, none⟩)) (hy : a.eval y = .agg C') (hi : (P.info? t).map (·.size) = some C'.size) (hs : C.size = C'.size) (h1 : C'.all (·.oneCell') = true)
    (h : wpList P ops Q rest (a.put op.dst undef) (w.alloc (.cells C' t))) : wpList P ops Q (op :: rest) a (w.alloc (.cells C t)) := by
  refine wpList_plain hgd fun K hK => ?_
  unfold Oper.wp execOp
  simp only [ho, hx, hy, Instr.storeAt, Instr.sureAddr, Sem.run_bind, Sem.run_pure, Result.andThen_ok, run_storeVar_new w t C C' hi hs h1]
  exact hK _ _ h
end
theorem results_big {P : Program} {fn : Func} {p u : Tmp} {ty : TypeId} (h : fn.results = #[.cell p ty, .tmp u]) (tmps : Array Value) (w : World) (g : Nat) (t : TypeId) (C : Array Value) (d : TypeDesc)
    (hp : tmps.getD p undef = .pointer (some ⟨g, 0, none⟩)) (hg : w.heap[g]? = some (.cells C t (0, 0)))
    (hu : P.underlying ty = some d) (hd : (match d with | .struct _ | .array _ _ => true | _ => false) = true) (hi : (P.info? ty).map (·.size) = some C.size) :
    (results fn tmps).run P w = .ok (.tuple #[.agg C, tmps.getD u undef]) w := by
  have hp' : tmps[p]?.getD undef = .pointer (some ⟨g, 0, none⟩) := by simpa using hp
  simp [results, h, hp', asAddr, run_loadVar_row w g t ty C (0, 0) d hg hu hd hi]
theorem setSize : (Tryz.prog.info? 166).map (·.size) = some (Lib.setCells [32, 0]).size := by
  rw [Lib.setCells_size]; exact (zero_of_info setInfo).2
set_option maxHeartbeats 1600000 in
set_option maxRecDepth 100000 in
theorem makeSet (w : World) :
    Calls Tryz.prog 126 #[.string ⟨#[32, 0]⟩] w fun e w' => e = .returned (.tuple #[.agg (Lib.setCells [32, 0]), .bool true]) ∧ w' = w.alloc (.cells (Lib.setCells [32, 0]) 166) := by
  obtain ⟨hz1, hz2⟩ := zero_of_info setInfo
  have hz3 := hz1 w
  obtain ⟨S, hS⟩ : ∃ S, (⟨#[32, 0]⟩ : ByteArray) = S := ⟨_, rfl⟩
  have hSz : S.size = 2 := by rw [← hS]; rfl
  have hSb := get_bt S
  have hS0 : bt S 0 = 32 := by rw [← hS]; rfl
  have hS1 : bt S 1 = 0 := by rw [← hS]; rfl
  rw [hS]
  clear hS hz1 hz2
  obtain ⟨C0, hC0⟩ : ∃ C0, Array.replicate 256 (Value.bool false) = C0 := ⟨_, rfl⟩
  rw [hC0] at hz3
  have HC0 : Hid (C0 = Lib.setCells []) := Lib.hid (by rw [← hC0]; rfl)
  clear hC0
  go_enter Tryz.func126, Tryz.ntmps126
  go_wp2
  go_loopw [4] (fun i wr => ∃ (k : Nat) (C : Array Value), k ≤ 2 ∧ i = .int .i64 k ∧ wr = w.alloc (.cells C 166) ∧ Hid (C = Lib.setCells (([32, 0] : List UInt8).take k))) (fun i _ => 2 - (intOf i).toNat)
  case atStart => exact ⟨0, C0, by omega, rfl, rfl, HC0⟩
  case round =>
    obtain ⟨k, C, hk, rfl, rfl, hC⟩ := hrel
    by_cases h0 : k = 0
    · subst h0
      have hcell : C[32]? = some (.bool false) := by rw [hC.out]; exact Lib.setCells_at [] 32
      have HC : Hid (C.setIfInBounds 32 (.bool true) = Lib.setCells (([32, 0] : List UInt8).take 1)) := Lib.hid (by rw [hC.out]; exact (Lib.setCells_snoc [] 32).symm)
      go_wp2
      go_roundw
      case rel => exact ⟨1, _, by omega, rfl, rfl, HC⟩
      case measure => simp [intOf]
    by_cases h1 : k = 1
    · subst h1
      have hcell : C[0]? = some (.bool false) := by rw [hC.out]; exact Lib.setCells_at [32] 0
      have HC : Hid (C.setIfInBounds 0 (.bool true) = Lib.setCells (([32, 0] : List UInt8).take 2)) := Lib.hid (by rw [hC.out]; exact (Lib.setCells_snoc [32] 0).symm)
      go_wp2
      go_roundw
      case rel => exact ⟨2, _, by omega, rfl, rfl, HC⟩
      case measure => simp [intOf]
    · obtain rfl : k = 2 := by omega
      obtain rfl : C = Lib.setCells [32, 0] := hC.out
      have hCs := setSize
      have hC1 := Lib.setCells_one [32, 0]
      obtain ⟨C, hCe⟩ : ∃ C, Lib.setCells [32, 0] = C := ⟨_, rfl⟩
      rw [hCe] at hCs hC1 ⊢
      have HCS := Lib.hid hCs
      have HC1 := Lib.hid hC1
      have HCE := Lib.hid hCe
      clear hCs hC1 hC hCe h0 h1 hz3 HC0 C0
      go_wp2_with (first
        | (refine wpList_load_row (o := ⟨some 20, _, _, _, _, _⟩) rfl 166 (.tmp 2) rfl w.heap.size rfl 166 C (0, 0) _ (heap_alloc_new w _) Tryz.underlying166 rfl HCS.out ?_)
        | (refine wpList_store_new rfl 166 (.tmp 2) (.tmp 20) rfl C C rfl rfl HCS.out rfl HC1.out ?_))
      refine bodyPost_ret (results_big rfl _ _ w.heap.size _ C _ rfl (heap_alloc_new w _) Tryz.underlying166 rfl HCS.out) rfl ?_
      exact ⟨by rw [HCE.out]; rfl, by rw [HCE.out]⟩
end Go.Proofs.YtepeehjajhehfaaGreatDoor
namespace Go.Proofs.YtepeehjajhehfaaGreatDoor
open Go.RowKit Go.PlainAid
set_option linter.unusedVariables false

/-- The block of the set. -/
def SetAt (w : World) (S : Nat) : Prop := ∀ x : UInt8, w.cell? ⟨S, x.toNat, none⟩ = some (.bool (([32, 0] : List UInt8).contains x))
theorem setAt_new (w : World) (t : TypeId) : SetAt (w.alloc (.cells (Lib.setCells [32, 0]) t)) w.heap.size := fun x => by
  rw [cell_of_row _ _ _ _ t (0, 0) (heap_alloc_new w _)]
  exact Lib.setCells_at [32, 0] x
theorem contains_end (x : UInt8) : ([32, 0] : List UInt8).contains x = true ↔ isEnd x := by
  simp [isEnd]
set_option maxHeartbeats 400000 in
set_option maxRecDepth 20000 in
theorem setHas (S : Nat) (x : UInt8) (w : World) (h : SetAt w S) :
    Calls Tryz.prog 146 #[.pointer (some ⟨S, 0, none⟩), .int .u8 x.toNat] w fun e w' => e = .returned (.bool (([32, 0] : List UInt8).contains x)) ∧ w = w' := by
  have hc := h x
  have hx256 : (x.toNat : Int) < 256 := by have := UInt8.toNat_lt x; omega
  obtain ⟨v, hv⟩ : ∃ v, ([32, 0] : List UInt8).contains x = v := ⟨_, rfl⟩
  rw [hv] at hc ⊢
  clear h hv
  go_enter Tryz.func146, Tryz.ntmps146
  go_wp2
  go_ret
  exact ⟨rfl, rfl⟩
theorem byt_at {bs : List UInt8} {k : Nat} (h : k < bs.length) : ∃ x : UInt8, bs[k]? = some x ∧ byt bs k = (x.toNat : Int) := ⟨bs[k], List.getElem?_eq_getElem h, by simp [byt, List.getD, h]⟩
theorem setHasI (S : Nat) (i : Int) (b : Bool) (x : UInt8) (w : World) (h : SetAt w S) (hi : i = (x.toNat : Int)) (hb : ([32, 0] : List UInt8).contains x = b) :
    Calls Tryz.prog 146 #[.pointer (some ⟨S, 0, none⟩), .int .u8 i] w fun e w' => e = .returned (.bool b) ∧ w = w' := by
  subst hi hb
  exact setHas S x w h

set_option maxHeartbeats 800000 in
set_option maxRecDepth 20000 in
theorem trimRightA (A : Option Addr) (n c B S : Nat) (bs : List UInt8) (w : World) (hn : bs.length = n) (hr : RB w B A bs) (hS : SetAt w S) (hnc : n ≤ c) (hm : n ≤ 70368744177664) :
    Calls Tryz.prog 128 #[.slice A n c, .pointer (some ⟨S, 0, none⟩)] w fun e w' => (∃ m, m ≤ n ∧ allEnd (bs.drop m) ∧ (∀ x, (bs.take m).getLast? = some x → ¬ isEnd x) ∧ e = .returned (.slice A m c)) ∧ w = w' := by
  have HN := Lib.hid hn
  have HR := Lib.hid hr
  have HS := Lib.hid hS
  clear hn hr hS
  go_enter Tryz.func128, Tryz.ntmps128
  go_wp2
  go_loop [0] (fun v => ∃ m : Nat, m ≤ n ∧ v = .slice A m c ∧ Hid (allEnd (bs.drop m))) (fun v => (match v with | .slice _ m _ => m | _ => 0))
  case atStart => exact ⟨n, by omega, rfl, Lib.hid (by rw [List.drop_of_length_le (by rw [HN.out]; omega)]; intro x hx; simp at hx)⟩
  case round =>
    obtain ⟨m, hm, rfl, hE⟩ := hrel
    by_cases h0 : 0 < m
    · obtain ⟨b, off, rfl, _, hc⟩ := HR.out (by rw [HN.out]; omega)
      have hcell := hc (m - 1) (by rw [HN.out]; omega)
      obtain ⟨x, hx1, hx2⟩ := byt_at (bs := bs) (k := m - 1) (by rw [HN.out]; omega)
      rw [hx2] at hcell
      have HX := Lib.hid hx1
      have w1 : IntKind.i64.wrap ((m : Int) - 1) = (m : Int) - 1 := IntWalk.i64_in _ (by omega)
      have w2 : ((m : Int) - 1).toNat = m - 1 := by omega
      have w3 : (0 : Int) ≤ (m : Int) - 1 := by omega
      have w4 : (m : Int) - 1 < (m : Int) := by omega
      have w5 : (m : Int) - 1 ≤ (c : Int) := by omega
      have w6 : (m : Int) - 1 ≤ (m : Int) := by omega
      clear hc hx1 hx2
      obtain ⟨d, hd⟩ : ∃ d, ([32, 0] : List UInt8).contains x = d := ⟨_, rfl⟩
      have HD := Lib.hid hd
      clear hd
      cases d with
      | true =>
        have HE : Hid (allEnd (bs.drop (m - 1))) := Lib.hid (fun y hy => by
          have hlt : m - 1 < bs.length := by rw [HN.out]; omega
          rw [List.drop_eq_getElem_cons hlt] at hy
          rcases List.mem_cons.1 hy with h | h
          · have e := HX.out
            rw [List.getElem?_eq_getElem hlt] at e
            rw [h, Option.some.inj e]
            exact (contains_end x).1 HD.out
          · exact hE.out y (by rwa [show m - 1 + 1 = m by omega] at h))
        go_wp2_with (go_at_call 146; refine (setHasI S _ true x _ HS.out rfl HD.out).mono ?_; rintro e w' ⟨rfl, rfl⟩)
        go_round
        case rel => exact ⟨m - 1, by omega, rfl, HE⟩
        case measure => simp; omega
      | false =>
        have HL : Hid (∀ y, (bs.take m).getLast? = some y → ¬ isEnd y) := Lib.hid (fun y hy => by
          have hlt : m - 1 < bs.length := by rw [HN.out]; omega
          have e2 : bs.take m = bs.take (m - 1) ++ [x] := by
            have e := HX.out
            rw [List.getElem?_eq_getElem hlt] at e
            have e3 := List.take_succ_eq_append_getElem hlt
            rw [Option.some.inj e, show m - 1 + 1 = m by omega] at e3
            exact e3
          rw [e2, List.getLast?_append] at hy
          have e4 : x = y := by simpa using hy
          rw [← e4]
          intro he
          have := (contains_end x).2 he
          rw [HD.out] at this
          cases this)
        go_wp2_with (go_at_call 146; refine (setHasI S _ false x _ HS.out rfl HD.out).mono ?_; rintro e w' ⟨rfl, rfl⟩)
        go_ret
        exact ⟨⟨m, by omega, hE.out, HL.out, rfl⟩, rfl⟩
    · obtain rfl : m = 0 := by omega
      go_wp2
      go_ret
      exact ⟨⟨0, by omega, hE.out, fun y hy => by simp at hy, rfl⟩, rfl⟩
end Go.Proofs.YtepeehjajhehfaaGreatDoor
namespace Go.Proofs.YtepeehjajhehfaaGreatDoor
open Go.RowKit Go.PlainAid
set_option linter.unusedVariables false

section
variable {P : Program}
theorem wpList_store_new' {ops : Array Oper} {rest : List Oper} {op : Oper} {a : Act} {w : World} {Q : Exit → Act → World → Prop} (hgd : op.guard = none) (t : TypeId) (x y : Operand) (ho : op.op = .store t x y)
    (C C' : Array Value) (g : Nat) (hg : g = w.heap.size) (hx : a.eval x = .pointer (some ⟨g, 0, none⟩)) (hy : a.eval y = .agg C') (hi : (P.info? t).map (·.size) = some C'.size) (hs : C.size = C'.size) (h1 : C'.all (·.oneCell') = true)
    (h : wpList P ops Q rest (a.put op.dst undef) (w.alloc (.cells C' t))) : wpList P ops Q (op :: rest) a (w.alloc (.cells C t)) := by
  subst hg
  exact wpList_store_new hgd t x y ho C C' hx hy hi hs h1 h
end
theorem RB.tail {w : World} {B b off : Nat} {x : UInt8} {l : List UInt8} (h : RB w B (some ⟨b, off, none⟩) (x :: l)) : RB w B (some ⟨b, off + 1, none⟩) l := fun hn => by
  obtain ⟨b', off', e, hb, hc⟩ := h (by simp)
  obtain ⟨rfl, rfl, _⟩ := Addr.mk.inj (Option.some.inj e)
  refine ⟨b, off + 1, rfl, hb, fun i hi => ?_⟩
  have := hc (i + 1) (by simp; omega)
  rw [show off + 1 + i = off + (i + 1) by omega, this]
  simp [byt, List.getD]
def LeftRel (w : World) (B : Nat) (bs : List UInt8) (A : Option Addr) (m c : Nat) (l : List UInt8) : Prop := l.length = m ∧ m ≤ c ∧ RB w B A l ∧ (A = none → c = 0) ∧ ∃ a, bs = a ++ l ∧ allEnd a
theorem LeftRel.next {w : World} {B : Nat} {bs : List UInt8} {b off m c : Nat} {x : UInt8} {l : List UInt8} (h : LeftRel w B bs (some ⟨b, off, none⟩) m c (x :: l)) (hx : isEnd x) : LeftRel w B bs (if c = 1 then some ⟨b, off, none⟩ else some ⟨b, off + 1, none⟩) (m - 1) (c - 1) l := by
  obtain ⟨h1, h2, h3, h4, a, h5, h6⟩ := h
  rw [List.length_cons] at h1
  refine ⟨by omega, by omega, ?_, (fun h => by split at h <;> cases h), a ++ [x], (by rw [h5]; simp), fun y hy => ?_⟩
  · split
    · have hl : l = [] := List.eq_nil_of_length_eq_zero (by omega)
      rw [hl]
      intro h
      simp at h
    · exact h3.tail
  rcases List.mem_append.1 hy with h | h
  · exact h6 y h
  · rw [List.mem_singleton.1 h]; exact hx
/-- What is left of the left side. -/
def LeftPost (w : World) (B : Nat) (bs : List UInt8) (e : Ending) (w' : World) : Prop := (∃ A m c l, LeftRel w B bs A m c l ∧ (∀ x, l.head? = some x → ¬ isEnd x) ∧ e = .returned (.slice A m c)) ∧ w = w'
set_option maxHeartbeats 800000 in
set_option maxRecDepth 20000 in
theorem trimLeftA (A : Option Addr) (n c B S : Nat) (bs : List UInt8) (w : World) (hn : bs.length = n) (hr : RB w B A bs) (hS : SetAt w S) (hnc : n ≤ c) (hA : A = none → c = 0) (hm : n ≤ 70368744177664) :
    Calls Tryz.prog 127 #[.slice A n c, .pointer (some ⟨S, 0, none⟩)] w (LeftPost w B bs) := by
  have H0 : Hid (LeftRel w B bs A n c bs) := Lib.hid ⟨hn, hnc, hr, hA, [], rfl, fun x hx => by simp at hx⟩
  have HS := Lib.hid hS
  clear hn hr hS hA
  go_enter Tryz.func127, Tryz.ntmps127
  go_wp2
  go_loop [0] (fun v => ∃ (A : Option Addr) (m c : Nat) (l : List UInt8), v = .slice A m c ∧ m ≤ 70368744177664 ∧ Hid (LeftRel w B bs A m c l)) (fun v => (match v with | .slice _ m _ => m | _ => 0))
  case atStart => exact ⟨A, n, c, bs, rfl, hm, H0⟩
  case round =>
    obtain ⟨A, m, c, l, rfl, hm, hL⟩ := hrel
    by_cases h0 : 0 < m
    · obtain ⟨x, r, rfl⟩ : ∃ x r, l = x :: r := by
        cases l with
        | nil => have := hL.out.1; simp at this; omega
        | cons x r => exact ⟨x, r, rfl⟩
      obtain ⟨b, off, rfl, _, hc⟩ := hL.out.2.2.1 (by simp)
      have hcell := hc 0 (by simp)
      have hx : byt (x :: r) 0 = (x.toNat : Int) := by simp [byt, List.getD]
      rw [hx, Nat.add_zero] at hcell
      have hmc := hL.out.2.1
      have w1 : (1 : Int) ≤ (m : Int) := by omega
      have w2 : (m : Int) ≤ (c : Int) := by omega
      have w3 : (0 : Int) < (m : Int) := by omega
      clear hc hx
      obtain ⟨d, hd⟩ : ∃ d, ([32, 0] : List UInt8).contains x = d := ⟨_, rfl⟩
      have HD := Lib.hid hd
      clear hd
      cases d with
      | true =>
        have HN := Lib.hid (hL.out.next ((contains_end x).1 HD.out))
        go_wp2_with (go_at_call 146; refine (setHasI S _ true x _ HS.out rfl HD.out).mono ?_; rintro e w' ⟨rfl, rfl⟩)
        go_round
        case rel => exact ⟨_, _, _, r, rfl, by omega, HN⟩
        case measure => simp; omega
      | false =>
        have HX : Hid (∀ y, (x :: r).head? = some y → ¬ isEnd y) := Lib.hid (fun y hy he => by
          have : x = y := by simpa using hy
          rw [← this] at he
          have := (contains_end x).2 he
          rw [HD.out] at this
          cases this)
        have hm1 : ¬ (m : Int) = 0 := by omega
        go_wp2_with (go_at_call 146; refine (setHasI S _ false x _ HS.out rfl HD.out).mono ?_; rintro e w' ⟨rfl, rfl⟩)
        go_ret
        exact ⟨⟨_, _, _, x :: r, hL.out, HX.out, rfl⟩, rfl⟩
    · obtain rfl : m = 0 := by omega
      have HE : Hid (l = []) := Lib.hid (List.eq_nil_of_length_eq_zero hL.out.1)
      go_wp2
      go_ret
      refine ⟨⟨none, 0, 0, [], ?_, fun y hy => by simp at hy, rfl⟩, rfl⟩
      obtain ⟨_, _, _, _, a, h5, h6⟩ := hL.out
      exact ⟨rfl, Nat.le_refl _, fun h => by simp at h, fun _ => rfl, a, by rw [h5, HE.out], h6⟩

/-- The trimmed slice. -/
def TrimPost (bs : List UInt8) (w : World) (B : Nat) (e : Ending) (w' : World) : Prop := (∃ A m c t, e = .returned (.slice A m c) ∧ TrimTo bs t ∧ t.length = m ∧ m ≤ c ∧ RB w' B A t ∧ (A = none → c = 0)) ∧ Below w.heap.size w w'
theorem trim_join {bs l : List UInt8} {m : Nat} {a : List UInt8} (h1 : allEnd (bs.drop m)) (h2 : ∀ x, (bs.take m).getLast? = some x → ¬ isEnd x) (h3 : bs.take m = a ++ l) (h4 : allEnd a) (h5 : ∀ x, l.head? = some x → ¬ isEnd x) : TrimTo bs l := by
  refine ⟨a, bs.drop m, by rw [← h3, List.take_append_drop], h4, h1, h5, fun x hx => h2 x ?_⟩
  rw [h3, List.getLast?_append, hx]
  rfl
set_option maxHeartbeats 1600000 in
set_option maxRecDepth 20000 in
theorem trim_any (A : Option Addr) (n c B : Nat) (bs : List UInt8) (w : World) (hn : bs.length = n) (hr : RB w B A bs) (hB : B ≤ w.heap.size) (hnc : n ≤ c) (hA : A = none → c = 0) (hm : n ≤ 70368744177664) :
    Calls Tryz.prog 109 #[.slice A n c, .string ⟨#[32, 0]⟩] w (TrimPost bs w B) := by
  by_cases h0 : n = 0
  · subst h0
    have HE : Hid (bs = []) := Lib.hid (List.eq_nil_of_length_eq_zero hn)
    clear hn hr hA
    go_enter Tryz.func109, Tryz.ntmps109
    go_wp2
    go_ret
    refine ⟨⟨none, 0, 0, [], rfl, ?_, rfl, Nat.le_refl _, fun h => by simp at h, fun _ => rfl⟩, Below.refl _ _⟩
    rw [HE.out]
    exact ⟨[], [], rfl, fun x hx => by simp at hx, fun x hx => by simp at hx, fun x hx => by simp at hx, fun x hx => by simp at hx⟩
  · have hn0 : ¬ (n : Int) = 0 := by omega
    have HN := Lib.hid hn
    have HR := Lib.hid hr
    have HA := Lib.hid hA
    obtain ⟨Z, hZ⟩ : ∃ Z, (⟨#[32, 0]⟩ : ByteArray) = Z := ⟨_, rfl⟩
    have hZs : Z.size = 2 := by rw [← hZ]; rfl
    obtain ⟨e1, e2⟩ : ¬ Z.toList = [] ∧ Z.toList.isEmpty = false := by rw [← hZ, Lib.toList_data]; exact ⟨by simp, by simp⟩
    have HM := fun w => Lib.hid (makeSet w)
    rw [hZ] at HM ⊢
    clear hn hr hA hZ
    go_enter Tryz.func109, Tryz.ntmps109
    go_wp2_with fail
    refine (HM _).out.mono ?_
    rintro e w1 ⟨rfl, rfl⟩
    have HCS := Lib.hid setSize
    have HC1 := Lib.hid (Lib.setCells_one [32, 0])
    have HSZ : Hid ((Array.replicate 256 (Value.bool false)).size = (Lib.setCells [32, 0]).size) := Lib.hid (by rw [Lib.setCells_size, Array.size_replicate])
    have hz := (zero_of_info setInfo).1
    have HSn := fun (w : World) => Lib.hid (setAt_new w 166)
    obtain ⟨C, hC⟩ : ∃ C, Lib.setCells [32, 0] = C := ⟨_, rfl⟩
    rw [hC] at HCS HC1 HSn HSZ ⊢
    clear hC
    go_wp2_with (first
      | (refine wpList_store_new' (op := ⟨none, _, _, _, _, _⟩) rfl 166 (.tmp 5) (.tmp 31) rfl (Array.replicate 256 (Value.bool false)) C (w.heap.size + 1) (by simp) rfl rfl HCS.out HSZ.out HC1.out ?_)
      | fail)
    have HS : Hid (SetAt ((w.alloc (.cells C 166)).alloc (.cells C 166)) (w.heap.size + 1)) := Lib.hid (by
      have h := (HSn (w.alloc (.cells C 166))).out
      rwa [World.size_alloc] at h)
    have HB2 : Hid (Below w.heap.size w ((w.alloc (.cells C 166)).alloc (.cells C 166))) := Lib.hid (by
      have a1 := (Below.refl w.heap.size w).alloc (Nat.le_refl _) (.cells C 166)
      exact a1.alloc a1.size _)
    have HR2 : Hid (RB ((w.alloc (.cells C 166)).alloc (.cells C 166)) B A bs) := Lib.hid ((HR.out.alloc hB _).alloc (by simp; omega) _)
    obtain ⟨w2, hw2⟩ : ∃ w2, w2 = (w.alloc (.cells C 166)).alloc (.cells C 166) := ⟨_, rfl⟩
    rw [← hw2] at HS HB2 HR2 ⊢
    clear hw2 HSn HCS HC1 HSZ hz HM
    refine (trimRightA A n c B _ bs _ HN.out HR2.out HS.out hnc hm).mono ?_
    rintro e w3 ⟨⟨m, hm2, h1, h2, rfl⟩, rfl⟩
    have H1 := Lib.hid h1
    have H2 := Lib.hid h2
    have HT : Hid ((bs.take m).length = m) := Lib.hid (by rw [List.length_take, HN.out]; omega)
    have HRT := Lib.hid (HR2.out.take m)
    clear h1 h2
    go_wp2_with fail
    refine (trimLeftA A m c B _ (bs.take m) _ HT.out HRT.out HS.out (by omega) HA.out (by omega)).mono ?_
    rintro e w4 ⟨⟨A', m', c', l, hL, hx, rfl⟩, rfl⟩
    have HL := Lib.hid hL
    have HX := Lib.hid hx
    clear hL hx
    go_wp2
    go_ret
    obtain ⟨q1, q2, q3, q4, a, q5, q6⟩ := HL.out
    exact ⟨⟨A', m', c', l, rfl, trim_join H1.out H2.out q5 q6 HX.out, q1, q2, q3, q4⟩, HB2.out⟩
end Go.Proofs.YtepeehjajhehfaaGreatDoor
namespace Go.Proofs.YtepeehjajhehfaaGreatDoor
open Go.RowKit Go.PlainAid
set_option linter.unusedVariables false

theorem isErr : (match Tryz.prog.underlying 101 with | some (.interface _) => true | _ => false) = true := by kernel_rfl
theorem bytesWorld_below (w : World) (e : TypeId) (s : ByteArray) : Below w.heap.size w (Lib.bytesWorld w e s) := Lib.below_freeze (((Below.refl _ w).drew).alloc (Nat.le_refl _) _) (Nat.le_refl _) _
/-- The number that the digits tell. -/
def Is8 (l : List UInt8) (u : Nat) : Prop := all8 l ∧ v8 0 l = u ∧ u < 18446744073709551616
def P8Yes (u : Nat) (w : World) (e : Ending) (w' : World) : Prop := e = .returned (.tuple #[.int .u64 u, .nilIface]) ∧ Below w.heap.size w w'
def P8No (w : World) (e : Ending) (w' : World) : Prop := (∃ (x : Nat) (N : Nat), x < 18446744073709551616 ∧ e = .returned (.tuple #[.int .u64 x, .iface 188 (.pointer (some ⟨N, 0, none⟩))])) ∧ Below w.heap.size w w'
set_option maxHeartbeats 800000 in
set_option maxRecDepth 20000 in
theorem parse8_yes (s : ByteArray) (u : Nat) (w : World) (hne : s.size ≠ 0) (hs : s.size ≤ 4611686018427387904) (h : Is8 s.data.toList u) :
    Calls Tryz.prog 110 #[.string s, .int .i64 8, .int .i64 64] w (P8Yes u w) := by
  have HP := Lib.hid (parse8I s hne hs w)
  have HE : Hid (p8 0 s.data.toList = .ok u) := Lib.hid ((p8_ok _ 0 u (by omega)).2 h)
  have HB := Lib.hid (bytesWorld_below w 5 s)
  have hneq := fun w => run_neq_nil_nil_at (P := Tryz.prog) (w := w) 101 isErr
  clear h
  go_enter Tryz.func110, Tryz.ntmps110
  go_wp2_with fail
  refine HP.out.mono ?_
  rw [HE.out]
  unfold Lib.uintTuple
  rintro e w1 ⟨rfl, rfl⟩
  obtain ⟨w1, hw1⟩ : ∃ w1, w1 = Lib.bytesWorld w 5 s := ⟨_, rfl⟩
  rw [← hw1] at HB ⊢
  clear hw1
  go_wp2
  go_ret2
  exact ⟨rfl, HB.out⟩
set_option maxHeartbeats 800000 in
set_option maxRecDepth 20000 in
theorem parse8_no {B : Nat} {a1 a2 : Addr} (s : ByteArray) (w : World) (hne : s.size ≠ 0) (hs : s.size ≤ 281474976710656) (h : ∀ u, ¬ Is8 s.data.toList u) (hE1 : Err w.heap.size w 4 a1) (hE2 : Err w.heap.size w 5 a2) :
    Calls Tryz.prog 110 #[.string s, .int .i64 8, .int .i64 64] w (P8No w) := by
  have HP := Lib.hid (parse8I s hne (by omega) w)
  have HB := Lib.hid (bytesWorld_below w 5 s)
  have H1 := Lib.hid (hE1.more (bytesWorld_below w 5 s))
  have H2 := Lib.hid (hE2.more (bytesWorld_below w 5 s))
  have hneq := fun w x => run_neq_iface_nil (P := Tryz.prog) (w := w) 101 isErr 186 x
  have hcase : p8 0 s.data.toList = Lib.NumEnd.syntax ∨ p8 0 s.data.toList = .range := by
    cases hp : p8 0 s.data.toList with
    | ok u => exact absurd ((p8_ok _ 0 u (by omega)).1 hp) (h u)
    | range => exact .inr rfl
    | _ => exact .inl rfl
  clear h hE1 hE2
  rcases hcase with hc | hc
  · have HE := Lib.hid hc
    clear hc
    go_enter Tryz.func110, Tryz.ntmps110
    go_wp2_with fail
    refine HP.out.mono ?_
    rw [HE.out]
    unfold Lib.uintTuple
    rintro e w1 ⟨rfl, rfl⟩
    obtain ⟨w1, hw1⟩ : ∃ w1, w1 = Lib.bytesWorld w 5 s := ⟨_, rfl⟩
    rw [← hw1] at HB H1 H2 ⊢
    clear hw1
    go_wp2_with fail
    refine (Tryz.strconv_toError_syntax _ s _ _ _ w1 hs H1.out.cell (.inr ⟨_, _, rfl⟩)).mono ?_
    rintro e w2 ⟨N, rfl, _, _, hb⟩
    have HB2 : Hid (Below w.heap.size w w2) := Lib.hid (HB.out.trans (hb.mono HB.out.size))
    clear hb
    go_wp2
    go_ret2
    exact ⟨⟨0, N, by omega, rfl⟩, HB2.out⟩
  · have HE := Lib.hid hc
    clear hc
    go_enter Tryz.func110, Tryz.ntmps110
    go_wp2_with fail
    refine HP.out.mono ?_
    rw [HE.out]
    unfold Lib.uintTuple
    rintro e w1 ⟨rfl, rfl⟩
    obtain ⟨w1, hw1⟩ : ∃ w1, w1 = Lib.bytesWorld w 5 s := ⟨_, rfl⟩
    rw [← hw1] at HB H1 H2 ⊢
    clear hw1
    go_wp2_with fail
    refine (Tryz.strconv_toError_range _ s _ _ _ w1 hs H2.out.cell (.inr ⟨_, _, rfl⟩)).mono ?_
    rintro e w2 ⟨N, rfl, _, _, hb⟩
    have HB2 : Hid (Below w.heap.size w w2) := Lib.hid (HB.out.trans (hb.mono HB.out.size))
    clear hb
    go_wp2
    go_ret2
    exact ⟨⟨18446744073709551615, N, by omega, rfl⟩, HB2.out⟩

/-! ### parseOctal -/
theorem wrap_i64' (n : Int) : IntKind.i64.wrap n = wrap64 n := by rw [IntKind.wrap_i64]; unfold wrap64; omega
/-- What the program reads of a field of octal digits. -/
def OctR (bs : List UInt8) (x : Int) (ok : Bool) : Prop := ∃ t, TrimTo bs t ∧ ((t = [] ∧ x = 0 ∧ ok = true) ∨ (t ≠ [] ∧ ((∃ u, Is8 (txt t) u ∧ x = wrap64 (u : Int) ∧ ok = true) ∨ ((∀ u, ¬ Is8 (txt t) u) ∧ ok = false))))
theorem txt_upTo0 (l : List UInt8) : txt l = upTo0 l := rfl
theorem txt_ne {bs t : List UInt8} (h : TrimTo bs t) (ht : t ≠ []) : txt t ≠ [] := by
  obtain ⟨_, _, _, _, _, h1, _⟩ := h
  cases t with
  | nil => exact absurd rfl ht
  | cons c r =>
    have hc := h1 c rfl
    unfold txt fz
    rw [List.findIdx_cons]
    have : (c == 0) = false := by
      have h2 : c ≠ 0 := fun e => hc (.inr e)
      simpa using h2
    rw [this]
    simp
/-- The parser's block behind the call: no error, or the package's own. -/
def ParsAt (w : World) (P : Nat) (a : Addr) (ok : Bool) : Prop := (ok = true → Blk w P 120 [.nilIface]) ∧ (ok = false → Blk w P 120 [errV a])
def OctP (bs : List UInt8) (w : World) (B P : Nat) (a : Addr) (e : Ending) (w' : World) : Prop := ∃ x ok, e = .returned (.int .i64 x) ∧ OctR bs x ok ∧ ParsAt w' P a ok ∧ Below B w w'
set_option maxHeartbeats 1600000 in
set_option maxRecDepth 20000 in
theorem parseOctal_any {a a1 a2 : Addr} (A : Option Addr) (n c B P : Nat) (bs : List UInt8) (w : World) (hn : bs.length = n) (hr : RB w w.heap.size A bs) (hnc : n ≤ c) (hA : A = none → c = 0) (hm : n ≤ 70368744177664)
    (hP : Blk w P 120 [.nilIface]) (hBP : B ≤ P) (hBw : B ≤ w.heap.size) (hg : 1 ≠ P)
    (hE : Err w.heap.size w 1 a) (hE1 : Err w.heap.size w 4 a1) (hE2 : Err w.heap.size w 5 a2) :
    Calls Tryz.prog 62 #[.pointer (some ⟨P, 0, none⟩), .slice A n c] w (OctP bs w B P a) := by
  have HN := Lib.hid hn
  have HT := Lib.hid (trim_any A n c w.heap.size bs w hn hr (Nat.le_refl _) hnc hA hm)
  have HP := Lib.hid hP
  have HE := Lib.hid hE
  have HE1 := Lib.hid hE1
  have HE2 := Lib.hid hE2
  clear hn hr hA hP hE hE1 hE2
  go_enter Tryz.func62, Tryz.ntmps62
  go_wp2_with fail
  refine HT.out.mono ?_
  rintro e w1 ⟨⟨A', m, c', t, rfl, ht, htm, hmc, hRt, hA'⟩, hb1⟩
  have HB1 := Lib.hid hb1
  have HTr := Lib.hid ht
  have HRt := Lib.hid hRt
  have HA' := Lib.hid hA'
  have HTm := Lib.hid htm
  have HP1 := Lib.hid (HP.out.below hb1 HP.out.lt)
  clear hb1 ht hRt hA' htm HT
  by_cases h0 : m = 0
  · subst h0
    have HZ : Hid (t = []) := Lib.hid (List.eq_nil_of_length_eq_zero HTm.out)
    go_wp2_with fail
    go_ret
    exact ⟨0, true, rfl, ⟨t, HTr.out, .inl ⟨HZ.out, rfl, rfl⟩⟩, ⟨fun _ => HP1.out, fun h => by cases h⟩, HB1.out.mono hBw⟩
  have hm0 : ¬ (m : Int) = 0 := by omega
  have hne : t ≠ [] := fun e => h0 (by rw [← HTm.out, e]; rfl)
  have HNE := Lib.hid hne
  have htne := txt_ne HTr.out hne
  have hs0 : (mkS (txt t)).size ≠ 0 := by
    show (txt t).toArray.size ≠ 0
    rw [List.size_toArray]
    exact fun h => htne (List.eq_nil_of_length_eq_zero h)
  have htl : (txt t).length ≤ n := by
    have h1 : (txt t).length ≤ t.length := by unfold txt; rw [List.length_take]; omega
    obtain ⟨a', b', e', _⟩ := HTr.out
    have h2 := congrArg List.length e'
    rw [HN.out, List.length_append, List.length_append] at h2
    omega
  have hsz : (mkS (txt t)).size ≤ 281474976710656 := by
    show (txt t).toArray.size ≤ _
    rw [List.size_toArray]
    omega
  have HDL : Hid ((mkS (txt t)).data.toList = txt t) := Lib.hid (by simp [mkS])
  obtain ⟨s, hs⟩ : ∃ s, mkS (txt t) = s := ⟨_, rfl⟩
  have HPS := Lib.hid (parseString_any (.pointer (some ⟨P, 0, none⟩)) A' m c' _ t w1 HTm.out HRt.out HA'.out hmc)
  rw [hs] at hs0 hsz HDL HPS
  clear hs hne htne htl
  by_cases hi : ∃ u, Is8 (txt t) u
  · obtain ⟨u, hu⟩ := hi
    have HU := Lib.hid hu
    have hneq := fun w => run_neq_nil_nil_at (P := Tryz.prog) (w := w) 101 isErr
    clear hu
    go_wp2_with fail
    refine HPS.out.mono ?_
    rintro e w2 ⟨rfl, rfl⟩
    go_wp2_with fail
    refine (parse8_yes s u _ hs0 (by omega) (by rw [HDL.out]; exact HU.out)).mono ?_
    rintro e w2 ⟨rfl, hb2⟩
    have HB2 := Lib.hid ((HB1.out.trans (hb2.mono HB1.out.size)).mono hBw)
    have HP2 := Lib.hid (HP1.out.below hb2 HP1.out.lt)
    clear hb2
    go_wp2
    go_ret
    exact ⟨_, true, rfl, ⟨t, HTr.out, .inr ⟨HNE.out, .inl ⟨u, HU.out, by first | rfl | exact wrap_i64' _, rfl⟩⟩⟩, ⟨fun _ => HP2.out, fun h => by cases h⟩, HB2.out⟩
  · have HI : Hid (∀ u, ¬ Is8 (txt t) u) := Lib.hid (fun u hu => hi ⟨u, hu⟩)
    have hneq := fun w x => run_neq_iface_nil (P := Tryz.prog) (w := w) 101 isErr 188 x
    clear hi
    go_wp2_with fail
    refine HPS.out.mono ?_
    rintro e w2 ⟨rfl, rfl⟩
    go_wp2_with fail
    refine (parse8_no (B := 0) s _ hs0 hsz (by rw [HDL.out]; exact HI.out) (HE1.out.more HB1.out) (HE2.out.more HB1.out)).mono ?_
    rintro e w2 ⟨⟨x, N, hx, rfl⟩, hb2⟩
    have HB2 := Lib.hid ((HB1.out.trans (hb2.mono HB1.out.size)).mono hBw)
    have HP2 := Lib.hid (HP1.out.below hb2 HP1.out.lt)
    have HE3 := Lib.hid ((HE.out.more HB1.out).more hb2)
    have k1 := HE3.out.cell
    unfold errV at k1
    have p0 : w2.cell? ⟨P, 0, none⟩ = some .nilIface := by rw [HP2.out.cell]; rfl
    have f0 := HP2.out.frozen 0
    clear hb2
    go_wp2
    go_ret
    refine ⟨_, false, rfl, ⟨t, HTr.out, .inr ⟨HNE.out, .inr ⟨HI.out, rfl⟩⟩⟩, ⟨(fun h => by cases h), fun _ => ?_⟩, HB2.out.setCell hBP _⟩
    exact HP2.out.set_ 0 (errV a)

/-! ### impl.Octal -/
def NumP (R : List UInt8 → Int → Bool → Prop) (bs : List UInt8) (w : World) (e : Ending) (w' : World) : Prop := ∃ x ok, e = .returned (.tuple #[.int .i64 x, .bool ok]) ∧ R bs x ok ∧ Below w.heap.size w w'
theorem parser_new (w : World) : Blk (w.alloc (.cells #[.nilIface] 120)) w.heap.size 120 [.nilIface] := Blk.new w _ [.nilIface]
end Go.Proofs.YtepeehjajhehfaaGreatDoor
namespace Go.Proofs.YtepeehjajhehfaaGreatDoor
open Go.RowKit Go.PlainAid
set_option linter.unusedVariables false

/-- What the documents say and what is read. -/
theorem octR_of_octS {bs : List UInt8} {x y v : Int} {ok : Bool} (hS : OctS bs x v) (hR : OctR bs y ok) : v = 0 ∨ (v = 2 ∧ ok = false) ∨ (v = 1 ∧ ok = true ∧ y = x) := by
  obtain ⟨t, ht, hR⟩ := hR
  rcases hS with rfl | ⟨rfl, d, z, r, rfl, hd, hz, hz8⟩ | ⟨rfl, d, e, rfl, hd, hdn, hdl, hen, he, rfl⟩
  · exact .inl rfl
  · refine .inr (.inl ⟨rfl, ?_⟩)
    obtain ⟨r', rfl⟩ := trim_bad ht hd hz
    rcases hR with ⟨h, _⟩ | ⟨_, ⟨u, hu, _⟩ | ⟨_, h⟩⟩
    · simp at h
    · refine absurd (hu.1 z ?_) hz8
      rw [txt_upTo0]
      exact upTo0_bad hd (fun e => hz (.inr e))
    · exact h
  · refine .inr (.inr ⟨rfl, ?_⟩)
    obtain rfl := trim_digits ht hd hdn he
    have e1 : txt t = t := upTo0_digits hd
    have h1 := v8_bound t 0 hd
    have h4 := Nat.pow_le_pow_right (n := 8) (by omega) hdl
    have h5 : (8 : Nat) ^ 21 = 9223372036854775808 := by decide
    have hlt : v8 0 t < 9223372036854775808 := by omega
    rcases hR with ⟨h, _⟩ | ⟨_, ⟨u, hu, rfl, h⟩ | ⟨h, _⟩⟩
    · exact absurd h hdn
    · rw [e1] at hu
      refine ⟨h, ?_⟩
      rw [← hu.2.1]
      unfold wrap64
      omega
    · refine absurd ?_ (h (v8 0 t))
      rw [e1]
      exact ⟨hd, rfl, by omega⟩

end Go.Proofs.YtepeehjajhehfaaGreatDoor
