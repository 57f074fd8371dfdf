/- strconv.ParseUint at base 8, 64 bits. -/
import Derived.Test.YtagjbndcbcepcaaDoorO8
import Derived.Test.YtagjbndcbcepcaaDoorShelf
import Derived.Test.YtagjbndcbcepcaaDoorErr
import Derived.Lib.Strings
import Derived.Lib.Walk
import Derived.Lib.ConvBytes
import Derived.Lib.AtoiAllMem
import Derived.Laws.Strings3
import Derived.Laws.Closers25
import Derived.Laws.Closers25b
import Derived.BigCall
import Derived.BigGuard
import Derived.Lib.UnsafeStr
namespace Go.Proofs.YtagjbndcbcepcaaDoor
open Go.RowKit Go.PlainAid
set_option linter.unusedVariables false

/-- What ParseUint(s, 8, 64) makes of the bytes behind acc. -/
def p8 : Nat → List UInt8 → Lib.NumEnd Nat
  | acc, [] => .ok acc
  | acc, c :: l => if 48 ≤ c.toNat ∧ c.toNat ≤ 55 then (if 2305843009213693952 ≤ acc then .range else p8 (acc * 8 + (c.toNat - 48)) l) else Lib.NumEnd.syntax
theorem p8_ok : ∀ (l : List UInt8) (acc u : Nat), acc < 18446744073709551616 → (p8 acc l = .ok u ↔ all8 l ∧ v8 acc l = u ∧ u < 18446744073709551616)
  | [], acc, u, ha => by
    simp only [p8]
    constructor
    · intro h
      have h2 := Lib.NumEnd.ok.inj h
      exact ⟨fun c hc => by simp at hc, h2, by omega⟩
    · rintro ⟨_, h, _⟩
      rw [← h]
      rfl
  | c :: l, acc, u, ha => by
    simp only [p8]
    by_cases hd : 48 ≤ c.toNat ∧ c.toNat ≤ 55
    · rw [if_pos hd]
      by_cases h1 : 2305843009213693952 ≤ acc
      · rw [if_pos h1]
        constructor
        · intro h; cases h
        · rintro ⟨_, h, hu⟩
          have := v8_ge l (acc * 8 + (c.toNat - 48))
          rw [v8_cons] at h
          omega
      · rw [if_neg h1, p8_ok l _ u (by omega), v8_cons, all8_cons]
        exact ⟨fun ⟨a, b⟩ => ⟨⟨hd, a⟩, b⟩, fun ⟨⟨_, a⟩, b⟩ => ⟨a, b⟩⟩
    · rw [if_neg hd]
      constructor
      · intro h; cases h
      · rintro ⟨h, _⟩
        exact absurd (all8_cons.1 h).1 hd
set_option maxHeartbeats 8000000 in
set_option maxRecDepth 100000 in
theorem parse8I (t : ByteArray) (hne : t.size ≠ 0) (hmax : t.size ≤ 4611686018427387904) (w : World) :
    Calls Tryd.prog 49 #[.string t, .int .i64 8, .int .i64 64] w fun e w' => e = .returned (Lib.uintTuple 80 (p8 0 t.data.toList)) ∧ w' = Lib.bytesWorld w 5 t := by
  have hemp : t.toList.isEmpty = false := by
    rw [← decide_eq_emptyBytes]
    exact decide_eq_false (fun h => hne (by rw [h]; rfl))
  have hcv := Lib.run_convert_string_bytes (P := Tryd.prog) w 9 22 5 t (u := .string) Tryd.underlying9 Tryd.underlying22 Tryd.underlying5
  have hB : ∀ j, j < t.size → (Lib.bytesWorld w 5 t).cell? ⟨w.heap.size, j, none⟩ = some (.int .u8 (t.data.toList.getD j 0).toNat) := fun j hj => Lib.bytesWorld_cell w 5 t j hj
  obtain ⟨W1, hW1⟩ : ∃ W1, W1 = Lib.bytesWorld w 5 t := ⟨_, rfl⟩
  rw [← hW1] at hcv hB ⊢
  clear hW1
  obtain ⟨bs, hL⟩ : ∃ bs, bs = t.data.toList := ⟨_, rfl⟩
  have hLn : bs.length = t.size := by rw [hL, Lib.size_eq]
  rw [← hL] at hB ⊢
  clear hL
  have hmv : IntKind.u64.wrap (IntKind.u64.wrap 18446744073709551616 - 1) = 18446744073709551615 := by
    rw [IntKind.wrap_u64, IntKind.wrap_u64]
    decide
  go_enter Tryd.func49, Tryd.ntmps49
  go_wp2
  go_loop [12, 13, 101] (fun vu vn vi => ∃ (k acc : Nat) (a : Int), vu = .bool false ∧ vn = .int .u64 a ∧ vi = .int .i64 k ∧ k ≤ t.size ∧ Hid (a = (acc : Int) ∧ acc < 18446744073709551616 ∧ p8 0 bs = p8 acc (bs.drop k)))
    (fun _ _ vi => t.size - (intOf vi).toNat)
  case atStart => exact ⟨0, 0, 0, rfl, rfl, rfl, by omega, rfl, by omega, rfl⟩
  case round =>
    obtain ⟨k, acc, a, rfl, rfl, rfl, hk, hh⟩ := hrel
    obtain ⟨ha, hacc, hdec⟩ := hh.out
    clear hh
    have a0 : 0 ≤ a := by omega
    have a1 : a < 18446744073709551616 := by omega
    by_cases hkn : k < t.size
    · have hc := hB k hkn
      have hdrop : bs.drop k = bs[k]'(by omega) :: bs.drop (k + 1) := List.drop_eq_getElem_cons (by omega)
      have hget : bs.getD k 0 = bs[k]'(by omega) := by simp [List.getD, List.getElem?_eq_getElem (show k < bs.length by omega)]
      rw [hdrop] at hdec
      rw [hget] at hc
      generalize bs[k]'(by omega) = c at hc hdec
      have hc256 : c.toNat < 256 := c.toNat_lt
      clear hB hdrop hget
      by_cases hdig : 48 ≤ c.toNat ∧ c.toNat ≤ 57
      · obtain ⟨hd0, hd1⟩ := hdig
        by_cases h8 : 55 < c.toNat
        · have hF : p8 acc (c :: bs.drop (k + 1)) = Lib.NumEnd.syntax := by simp only [p8]; rw [if_neg (by omega)]
          rw [hF] at hdec
          have hu : IntKind.u8.wrap ((c.toNat : Int) - 48) = (c.toNat : Int) - 48 := IntWalk.u8_in _ ⟨by omega, by omega⟩
          have h88 : (8 : Int) ≤ (c.toNat : Int) - 48 := by omega
          clear hacc hF ha
          go_wp2
          go_ret2
          first | exact ⟨rfl, rfl⟩ | exact ⟨by rw [hdec]; rfl, rfl⟩
        have hu : IntKind.u8.wrap ((c.toNat : Int) - 48) = (c.toNat : Int) - 48 := IntWalk.u8_in _ ⟨by omega, by omega⟩
        have h88 : ¬ (8 : Int) ≤ (c.toNat : Int) - 48 := by omega
        by_cases hcut : 2305843009213693952 ≤ acc
        · have hF : p8 acc (c :: bs.drop (k + 1)) = .range := by simp only [p8]; rw [if_pos (by omega), if_pos hcut]
          rw [hF] at hdec
          have icut : 2305843009213693952 ≤ a := by omega
          clear hcut hacc hF ha
          go_wp2
          go_ret2
          first | exact ⟨rfl, rfl⟩ | exact ⟨by rw [hdec]; rfl, rfl⟩
        · have hF : p8 acc (c :: bs.drop (k + 1)) = p8 (acc * 8 + (c.toNat - 48)) (bs.drop (k + 1)) := by simp only [p8]; rw [if_pos (by omega), if_neg hcut]
          have HN : Hid (a * 8 + ((c.toNat : Int) - 48) = ((acc * 8 + (c.toNat - 48) : Nat) : Int) ∧ acc * 8 + (c.toNat - 48) < 18446744073709551616 ∧ p8 0 bs = p8 (acc * 8 + (c.toNat - 48)) (bs.drop (k + 1))) := Lib.hid ⟨by omega, by omega, hdec.trans hF⟩
          have icut : a < 2305843009213693952 := by omega
          have iov : a * 8 + ((c.toNat : Int) - 48) < 18446744073709551616 := by omega
          clear hcut hacc hF hdec ha
          go_wp2
          refine ⟨⟨k + 1, acc * 8 + (c.toNat - 48), a * 8 + ((c.toNat : Int) - 48), rfl, (by first | rfl | (congr 1; omega)), (by first | rfl | (congr 1; omega)), by omega, HN⟩, by simp [intOf]; omega⟩
      · have hF : p8 acc (c :: bs.drop (k + 1)) = Lib.NumEnd.syntax := by simp only [p8]; rw [if_neg (by omega)]
        rw [hF] at hdec
        clear hacc hF ha
        have hv0 := bits_lo_u8 .or (c.toNat : Int) 32
        have hv1 := bits_hi_u8 .or (c.toNat : Int) 32
        have hu0 := bits_lo_u8 .or 95 32
        have hu1 := bits_hi_u8 .or 95 32
        go_wp2_with (go_at_call 64; refine (Tryd.internal_strconv_lower _ _).mono ?_; rintro e w' ⟨rfl, rfl⟩)
        all_goals go_ret2
        all_goals first | exact ⟨rfl, rfl⟩ | exact ⟨by rw [hdec]; rfl, rfl⟩
    · have hkk : k = t.size := by omega
      subst hkk
      have hF : p8 acc (bs.drop t.size) = .ok acc := by rw [List.drop_eq_nil_of_le (by omega)]; rfl
      rw [hF] at hdec
      subst ha
      clear hacc hF a0 a1
      go_wp2
      go_ret2
      first | exact ⟨rfl, rfl⟩ | exact ⟨by rw [hdec]; rfl, rfl⟩
end Go.Proofs.YtagjbndcbcepcaaDoor
