/- Octal and binary numbers of a field: plain words. -/
import Derived.Test.YtagjbndcbcepcaaDoorW
namespace Go.Proofs.YtagjbndcbcepcaaDoor
open Go.RowKit Go.PlainAid
set_option linter.unusedVariables false

/-! ### Octal digits -/
def d8 (c : UInt8) : Prop := 48 ≤ c.toNat ∧ c.toNat ≤ 55
def all8 (l : List UInt8) : Prop := ∀ c ∈ l, d8 c
def v8 (acc : Nat) (l : List UInt8) : Nat := l.foldl (fun a c => a * 8 + (c.toNat - 48)) acc
theorem v8_cons (acc : Nat) (c : UInt8) (l : List UInt8) : v8 acc (c :: l) = v8 (acc * 8 + (c.toNat - 48)) l := by unfold v8; rw [List.foldl_cons]
theorem v8_snoc (acc : Nat) (c : UInt8) (l : List UInt8) : v8 acc (l ++ [c]) = v8 acc l * 8 + (c.toNat - 48) := by simp [v8]
theorem v8_app (acc : Nat) (a b : List UInt8) : v8 acc (a ++ b) = v8 (v8 acc a) b := by simp [v8]
theorem v8_ge : ∀ (l : List UInt8) (acc : Nat), acc ≤ v8 acc l
  | [], acc => Nat.le_refl _
  | c :: l, acc => by
    have := v8_ge l (acc * 8 + (c.toNat - 48))
    rw [v8_cons]
    omega
theorem v8_grow : ∀ (l : List UInt8) (acc : Nat), acc * 8 ^ l.length ≤ v8 acc l
  | [], acc => by simp [v8]
  | c :: l, acc => by
    have := v8_grow l (acc * 8 + (c.toNat - 48))
    rw [v8_cons, List.length_cons, Nat.pow_succ]
    have e : acc * (8 ^ l.length * 8) ≤ (acc * 8 + (c.toNat - 48)) * 8 ^ l.length := by
      rw [Nat.add_mul, Nat.mul_assoc, Nat.mul_comm 8]
      omega
    omega
theorem all8_cons {c : UInt8} {l : List UInt8} : all8 (c :: l) ↔ d8 c ∧ all8 l := by simp [all8]
theorem all8_app {a b : List UInt8} : all8 (a ++ b) ↔ all8 a ∧ all8 b := by
  constructor
  · intro h
    exact ⟨fun c hc => h c (List.mem_append_left _ hc), fun c hc => h c (List.mem_append_right _ hc)⟩
  · rintro ⟨h1, h2⟩ c hc
    rcases List.mem_append.1 hc with h | h
    · exact h1 c h
    · exact h2 c h
theorem v8_bound : ∀ (l : List UInt8) (acc : Nat), all8 l → v8 acc l < (acc + 1) * 8 ^ l.length
  | [], acc, _ => by simp [v8]
  | c :: l, acc, h => by
    obtain ⟨h1, h2⟩ := all8_cons.1 h
    unfold d8 at h1
    have := v8_bound l (acc * 8 + (c.toNat - 48)) h2
    rw [v8_cons, List.length_cons, Nat.pow_succ]
    have e : (acc * 8 + (c.toNat - 48) + 1) * 8 ^ l.length ≤ (acc * 8 + 8) * 8 ^ l.length := Nat.mul_le_mul_right _ (by omega)
    have e2 : (acc * 8 + 8) * 8 ^ l.length = (acc + 1) * (8 ^ l.length * 8) := by
      rw [show acc * 8 + 8 = (acc + 1) * 8 by omega, Nat.mul_assoc, Nat.mul_comm 8]
    omega
theorem v8_zeros (k acc : Nat) : v8 acc (List.replicate k 48) = acc * 8 ^ k := by
  induction k generalizing acc with
  | zero => simp [v8]
  | succ k ih =>
    rw [List.replicate_succ, v8_cons, ih, Nat.pow_succ]
    have : (48 : UInt8).toNat - 48 = 0 := by decide
    rw [this, Nat.add_zero, Nat.mul_assoc, Nat.mul_comm 8]

/-! ### What ends a number -/
def isEnd (c : UInt8) : Prop := c = 32 ∨ c = 0
def allEnd (l : List UInt8) : Prop := ∀ c ∈ l, isEnd c
theorem d8_noEnd {c : UInt8} (h : d8 c) : ¬ isEnd c := by
  unfold d8 at h
  rintro (rfl | rfl)
  · have : (32 : UInt8).toNat = 32 := rfl
    omega
  · have : (0 : UInt8).toNat = 0 := rfl
    omega
/-- t is l without what ends it at either side. -/
def TrimTo (l t : List UInt8) : Prop := ∃ a b, l = a ++ t ++ b ∧ allEnd a ∧ allEnd b ∧ (∀ c, t.head? = some c → ¬ isEnd c) ∧ (∀ c, t.getLast? = some c → ¬ isEnd c)
/-- A list whose first sign ends nothing: what is trimmed off stands behind. -/
theorem trim_head {l t : List UInt8} {c : UInt8} {r : List UInt8} (h : TrimTo l t) (hl : l = c :: r) (hc : ¬ isEnd c) : ∃ b, l = t ++ b ∧ allEnd b ∧ t ≠ [] := by
  obtain ⟨a, b, e, ha, hb, h1, h2⟩ := h
  cases a with
  | nil =>
    rw [List.nil_append] at e
    refine ⟨b, e, hb, fun ht => ?_⟩
    rw [ht, List.nil_append, hl] at e
    exact hc (hb c (by rw [← e]; simp))
  | cons x a =>
    rw [hl, List.cons_append, List.cons_append] at e
    have e1 := (List.cons.inj e).1
    exact absurd (ha c (by rw [e1]; simp)) hc
/-- Digits, and behind them what ends them: the digits are left. -/
theorem trim_digits {d e t : List UInt8} (h : TrimTo (d ++ e) t) (hd : all8 d) (hn : d ≠ []) (he : allEnd e) : t = d := by
  obtain ⟨c, r, hcr⟩ : ∃ c r, d = c :: r := by
    cases d with
    | nil => exact absurd rfl hn
    | cons c r => exact ⟨c, r, rfl⟩
  have hc : ¬ isEnd c := d8_noEnd (hd c (by rw [hcr]; simp))
  obtain ⟨b, e1, hb, ht⟩ := trim_head h (c := c) (r := r ++ e) (by rw [hcr]; rfl) hc
  obtain ⟨a', b', e', _, _, _, hlast⟩ := h
  -- t is no longer than d, and no shorter
  rcases Nat.lt_or_ge d.length t.length with hlt | hge
  · exfalso
    -- the last sign of t lies in e
    have hlen := congrArg List.length e1
    rw [List.length_append, List.length_append] at hlen
    obtain ⟨x, hx⟩ : ∃ x, t.getLast? = some x := by
      cases hg : t.getLast? with
      | none => exact absurd (List.getLast?_eq_none_iff.1 hg) ht
      | some x => exact ⟨x, rfl⟩
    have hxe : x ∈ e := by
      have h2 : t = d ++ e.take (t.length - d.length) := by
        have h3 : (d ++ e).take t.length = t := by rw [e1, List.take_left' rfl]
        rw [List.take_append, List.take_of_length_le (by omega)] at h3
        exact h3.symm
      rw [h2, List.getLast?_append] at hx
      have h4 : e.take (t.length - d.length) ≠ [] := by
        intro h5
        have := congrArg List.length h5
        rw [List.length_take, List.length_nil] at this
        omega
      cases hg : (e.take (t.length - d.length)).getLast? with
      | none => exact absurd (List.getLast?_eq_none_iff.1 hg) h4
      | some y =>
        rw [hg] at hx
        have : y = x := by simpa using hx
        rw [← this]
        exact List.mem_of_mem_take (List.mem_of_getLast? hg)
    exact hlast x hx (he x hxe)
  · rcases Nat.lt_or_ge t.length d.length with hlt | hge2
    · exfalso
      -- a digit lies in b
      have h3 : (d ++ e).drop t.length = b := by rw [e1, List.drop_left' rfl]
      rw [List.drop_append_of_le_length (by omega)] at h3
      obtain ⟨y, ys, hy⟩ : ∃ y ys, d.drop t.length = y :: ys := by
        cases hq : d.drop t.length with
        | nil =>
          have := congrArg List.length hq
          rw [List.length_drop, List.length_nil] at this
          omega
        | cons y ys => exact ⟨y, ys, rfl⟩
      have hyd : y ∈ d := List.mem_of_mem_drop (by rw [hy]; simp)
      exact d8_noEnd (hd y hyd) (hb y (by rw [← h3, hy]; simp))
    · have h3 : (d ++ e).take t.length = t := by rw [e1, List.take_left' rfl]
      rw [List.take_left' (by omega)] at h3
      exact h3.symm
/-- Another sign among the digits stays. -/
theorem trim_bad {d r t : List UInt8} {x : UInt8} (h : TrimTo (d ++ x :: r) t) (hd : all8 d) (hx : ¬ isEnd x) : ∃ r', t = d ++ x :: r' := by
  obtain ⟨c, q, hcq, hc⟩ : ∃ c q, d ++ x :: r = c :: q ∧ ¬ isEnd c := by
    cases hd' : d with
    | nil => exact ⟨x, r, rfl, hx⟩
    | cons c q => exact ⟨c, q ++ x :: r, rfl, d8_noEnd (hd c (by rw [hd']; simp))⟩
  obtain ⟨b, e1, hb, ht⟩ := trim_head h hcq hc
  rcases Nat.lt_or_ge d.length t.length with hlt | hge
  · have h3 : (d ++ x :: r).take t.length = t := by rw [e1, List.take_left' rfl]
    rw [List.take_append, List.take_of_length_le (by omega)] at h3
    obtain ⟨m, hm⟩ : ∃ m, t.length - d.length = m + 1 := ⟨t.length - d.length - 1, by omega⟩
    rw [hm, List.take_succ_cons] at h3
    exact ⟨_, h3.symm⟩
  · exfalso
    have h3 : (d ++ x :: r).drop t.length = b := by rw [e1, List.drop_left' rfl]
    rw [List.drop_append_of_le_length hge] at h3
    exact hx (hb x (by rw [← h3]; simp))

/-! ### The string up to the first byte 0 -/
def upTo0 (l : List UInt8) : List UInt8 := l.take (l.findIdx (· == 0))
theorem upTo0_digits {d : List UInt8} (hd : all8 d) : upTo0 d = d := by
  unfold upTo0
  apply List.take_of_length_le
  rw [List.findIdx_eq_length.2]
  · exact Nat.le_refl _
  · intro c hc
    have := hd c hc
    unfold d8 at this
    have h2 : c ≠ 0 := fun e => by rw [e] at this; have : (0 : UInt8).toNat = 0 := rfl; omega
    simpa using h2
theorem upTo0_bad {d r : List UInt8} {x : UInt8} (hd : all8 d) (hx : x ≠ 0) : x ∈ upTo0 (d ++ x :: r) := by
  unfold upTo0
  have hidx : d.length < (d ++ x :: r).findIdx (· == 0) := by
    rw [List.findIdx_append]
    have h0 : d.findIdx (· == 0) = d.length := by
      rw [List.findIdx_eq_length]
      intro c hc
      have := hd c hc
      unfold d8 at this
      have h2 : c ≠ 0 := fun e => by rw [e] at this; have : (0 : UInt8).toNat = 0 := rfl; omega
      simpa using h2
    rw [h0, if_neg (by omega), List.findIdx_cons]
    have h3 : (x == 0) = false := by simpa using hx
    rw [h3]
    simp
  rw [List.take_append]
  apply List.mem_append_right
  obtain ⟨m, hm⟩ : ∃ m, (d ++ x :: r).findIdx (· == 0) - d.length = m + 1 := ⟨(d ++ x :: r).findIdx (· == 0) - d.length - 1, by omega⟩
  rw [hm, List.take_succ_cons]
  simp

/-! ### Numbers in base 256 -/
def bv (acc : Nat) (l : List UInt8) : Nat := l.foldl (fun a c => a * 256 + c.toNat) acc
theorem bv_cons (acc : Nat) (c : UInt8) (l : List UInt8) : bv acc (c :: l) = bv (acc * 256 + c.toNat) l := by unfold bv; rw [List.foldl_cons]
theorem bv_snoc (acc : Nat) (c : UInt8) (l : List UInt8) : bv acc (l ++ [c]) = bv acc l * 256 + c.toNat := by simp [bv]
theorem bv_app (acc : Nat) (a b : List UInt8) : bv acc (a ++ b) = bv (bv acc a) b := by simp [bv]
theorem bv_ge : ∀ (l : List UInt8) (acc : Nat), acc ≤ bv acc l
  | [], acc => Nat.le_refl _
  | c :: l, acc => by
    have := bv_ge l (acc * 256 + c.toNat)
    rw [bv_cons]
    omega
theorem bv_grow {l : List UInt8} {acc : Nat} (h : l ≠ []) : acc * 256 ≤ bv acc l := by
  cases l with
  | nil => exact absurd rfl h
  | cons c l =>
    rw [bv_cons]
    exact Nat.le_trans (Nat.le_add_right _ _) (bv_ge l (acc * 256 + c.toNat))
theorem bv_acc : ∀ (l : List UInt8) (acc : Nat), bv acc l = acc * 256 ^ l.length + bv 0 l
  | [], acc => by simp [bv]
  | c :: l, acc => by
    rw [bv_cons, bv_acc l, bv_cons 0, bv_acc l (0 * 256 + c.toNat), List.length_cons, Nat.pow_succ]
    have e : (acc * 256 + c.toNat) * 256 ^ l.length = acc * (256 ^ l.length * 256) + (0 * 256 + c.toNat) * 256 ^ l.length := by
      rw [Nat.add_mul, Nat.mul_assoc, Nat.mul_comm 256, Nat.zero_mul, Nat.zero_add]
    omega
theorem bv_bound : ∀ (l : List UInt8) (acc : Nat), bv acc l < (acc + 1) * 256 ^ l.length
  | [], acc => by simp [bv]
  | c :: l, acc => by
    have := bv_bound l (acc * 256 + c.toNat)
    have hc := c.toNat_lt
    rw [bv_cons, List.length_cons, Nat.pow_succ]
    have e : (acc * 256 + c.toNat + 1) * 256 ^ l.length ≤ (acc * 256 + 256) * 256 ^ l.length := Nat.mul_le_mul_right _ (by omega)
    have e2 : (acc * 256 + 256) * 256 ^ l.length = (acc + 1) * (256 ^ l.length * 256) := by
      rw [show acc * 256 + 256 = (acc + 1) * 256 by omega, Nat.mul_assoc, Nat.mul_comm 256]
    omega
end Go.Proofs.YtagjbndcbcepcaaDoor
