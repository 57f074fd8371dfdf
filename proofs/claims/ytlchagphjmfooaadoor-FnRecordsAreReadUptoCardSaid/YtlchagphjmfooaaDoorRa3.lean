/- spec.Has: its walk. -/
import Derived.Test.YtlchagphjmfooaaDoorRa2
namespace Go.Proofs.YtlchagphjmfooaaDoor
open Go.RowKit Go.PlainAid
set_option linter.unusedVariables false

/-- The last records of their keys stand in the table, once. -/
def HasOk (l l2 : List (ByteArray × ByteArray)) : Prop :=
  ∀ k, k < l2.length → (∀ j, k < j → j < l2.length → rk l2 j ≠ rk l2 k) → ∃ i, i < l.length ∧ rk l i = rk l2 k ∧ rv l i = rv l2 k ∧ ∀ j, j < l.length → rk l j = rk l2 k → j = i
/-- No record of this key among the next j. -/
def LastTo (l2 : List (ByteArray × ByteArray)) (k j : Nat) (q : Bool) : Prop := q = true ↔ ∀ i, k < i → i < k + 1 + j → rk l2 i ≠ rk l2 k
theorem LastTo.step {l2 : List (ByteArray × ByteArray)} {k j : Nat} {q : Bool} (h : LastTo l2 k j q) (hne : rk l2 (k + 1 + j) ≠ rk l2 k) : LastTo l2 k (j + 1) q := by
  unfold LastTo at *
  rw [h]
  constructor
  · intro H i h1 h2
    rcases Nat.lt_or_ge i (k + 1 + j) with h3 | h3
    · exact H i h1 h3
    · rw [show i = k + 1 + j by omega]; exact hne
  · intro H i h1 h2
    exact H i h1 (by omega)
theorem LastTo.stop {l2 : List (ByteArray × ByteArray)} {k j : Nat} (he : rk l2 (k + 1 + j) = rk l2 k) : LastTo l2 k (j + 1) false := by
  unfold LastTo
  constructor
  · intro h; cases h
  · intro H; exact absurd he (H (k + 1 + j) (by omega) (by omega))
set_option maxRecDepth 20000 in
set_option maxHeartbeats 3200000 in
theorem specHas (A A' : Option Addr) (n c m c' B : Nat) (l l2 : List (ByteArray × ByteArray)) (w : World) (hn : l.length = n) (hm : l2.length = m) (hr : RC w B A (recsV l)) (hr2 : RC w B A' (recsV l2)) (hB : B ≤ w.heap.size) (hl : n ≤ 2147483647) (hl2 : m ≤ 2147483647) (hmc : m ≤ c') (hH : HasOk l l2) :
    Calls Tryd.prog 34 #[.slice A n c, .slice A' m c'] w fun e w' => e = .returned (.bool true) ∧ Below w.heap.size w w' := by
  have HR := Lib.hid hr
  have HR2 := Lib.hid hr2
  have HN := Lib.hid hn
  have HM := Lib.hid hm
  have HH := Lib.hid hH
  clear hr hr2 hn hm hH
  go_enter Tryd.func34, Tryd.ntmps34
  go_wp2
  go_loopw [14] (fun i wr => ∃ k : Nat, k ≤ m ∧ i = .int .i64 k ∧ Hid (Below w.heap.size w wr)) (fun i _ => m - (intOf i).toNat)
  case atStart => exact ⟨0, by omega, rfl, Lib.hid (Below.refl _ _)⟩
  case round =>
    obtain ⟨k, hk, rfl, hW⟩ := hrel
    by_cases hlt : k < m
    · obtain ⟨b, off, rfl, _, hc1, hc2⟩ := (HR2.out.below (hW.out.mono hB)).rec_ (k := k) (by rw [HM.out]; exact hlt)
      have HRR2 := Lib.hid (HR2.out.below (hW.out.mono hB))
      obtain ⟨X, hX⟩ : ∃ X, X = rk l2 k := ⟨_, rfl⟩
      obtain ⟨Y, hY⟩ : ∃ Y, Y = rv l2 k := ⟨_, rfl⟩
      have HX := Lib.hid hX
      have HY := Lib.hid hY
      rw [← hX] at hc1
      rw [← hY] at hc2
      have HBK := Lib.hid (Blk.new wr 23 [.string X, .string Y])
      have HW2 := Lib.hid (hW.out.alloc (o := .cells #[.string X, .string Y] 23) hW.out.size)
      have HKM : Hid (k < l2.length) := Lib.hid (by rw [HM.out]; exact hlt)
      obtain ⟨w1, rfl⟩ : ∃ w1, w1 = wr := ⟨_, rfl⟩
      have u1 : IntKind.i64.wrap ((k : Int) + 1) = ((k + 1 : Nat) : Int) := by rw [IntWalk.i64_in _ (by omega)]; omega
      have u2 : (0 : Int) ≤ ((k + 1 : Nat) : Int) := by omega
      have u3 : ((k + 1 : Nat) : Int) ≤ (m : Int) := by omega
      have u4 : ((k + 1 : Nat) : Int) ≤ (c' : Int) := by omega
      have u5 : ((k + 1 : Nat) : Int).toNat = k + 1 := by omega
      clear hX hY
      by_cases hcc : c' = k + 1
      · subst hcc
        have hHk : Hid (∃ i, i < l.length ∧ rk l i = X ∧ rv l i = Y ∧ ∀ j, j < l.length → rk l j = X → j = i) := Lib.hid (by
          rw [HX.out, HY.out]
          exact HH.out k HKM.out (fun i h1 h2 => by rw [HM.out] at h2; omega))
        go_wp2
        go_loopw [7, 24] (fun f i wi => f = .bool true ∧ i = .int .i64 0 ∧ Hid (Blk wi w1.heap.size 23 [.string X, .string Y]) ∧ Hid (Below w.heap.size w wi)) (fun _ _ _ => 0)
        case atStart => exact ⟨rfl, rfl, HBK, HW2⟩
        case round =>
          obtain ⟨rfl, rfl, hBi, hWi⟩ := hrel
          have p0 : wr.cell? ⟨w1.heap.size, 0, none⟩ = some (.string X) := by rw [hBi.out.cell]; rfl
          have p1 : wr.cell? ⟨w1.heap.size, 1, none⟩ = some (.string Y) := by rw [hBi.out.cell]; rfl
          have hlt0 := hBi.out.lt
          have HF := Lib.hid (specFind A n c B l X wr HN.out (HR.out.below (hWi.out.mono hB)) (by have := hWi.out.size; omega) hl)
          go_wp2_with fail
          refine HF.out.mono ?_
          rintro e w4 ⟨V, f, rfl, hF, hb4⟩
          have HW4 := Lib.hid (hWi.out.trans (hb4.mono hWi.out.size))
          have q0 : w4.cell? ⟨w1.heap.size, 0, none⟩ = some (.string X) := (hb4.cell (p := ⟨w1.heap.size, 0, none⟩) hlt0).trans p0
          have q1 : w4.cell? ⟨w1.heap.size, 1, none⟩ = some (.string Y) := (hb4.cell (p := ⟨w1.heap.size, 1, none⟩) hlt0).trans p1
          obtain ⟨rfl, rfl⟩ : f = true ∧ V = Y := by
            obtain ⟨i, h1, h2, h3, h4⟩ := hHk.out
            obtain ⟨g1, g2⟩ := hF i h1 h2 h4
            exact ⟨g1, by rw [g2, h3]⟩
          clear hF hb4 HF p0 p1
          have e1 : (V.toList == V.toList) = true := by simp
          go_wp2
          go_roundw
          case rel => exact ⟨k + 1, by omega, by go_num, HW4⟩
          case measure => simp [intOf]; omega
      · go_wp2
        obtain ⟨d, hd⟩ : ∃ d, m - (k + 1) = d := ⟨_, rfl⟩
        rw [hd]
        have hd2 : d ≤ 2147483647 := by omega
        go_loopw [7, 24] (fun f i wi => ∃ (j : Nat) (q : Bool), j ≤ d ∧ f = .bool q ∧ i = .int .i64 j ∧ Hid (LastTo l2 k j q) ∧ Hid (Blk wi w1.heap.size 23 [.string X, .string Y]) ∧ Hid (Below w.heap.size w wi)) (fun _ i _ => d - (intOf i).toNat)
        case atStart => exact ⟨0, true, by omega, rfl, rfl, Lib.hid ⟨fun _ i h1 h2 => by omega, fun _ => rfl⟩, HBK, HW2⟩
        case round =>
          obtain ⟨j, q, hj, rfl, rfl, hL, hBi, hWi⟩ := hrel
          have p0 : wr.cell? ⟨w1.heap.size, 0, none⟩ = some (.string X) := by rw [hBi.out.cell]; rfl
          have p1 : wr.cell? ⟨w1.heap.size, 1, none⟩ = some (.string Y) := by rw [hBi.out.cell]; rfl
          have hlt0 := hBi.out.lt
          by_cases hjd : j < d
          · first
              | (obtain ⟨b2, off2, hA2, _, hd1, hd2'⟩ := (HR2.out.below (hWi.out.mono hB)).rec_ (k := k + 1 + j) (by rw [HM.out]; omega)
                 obtain ⟨rfl, rfl⟩ : b = b2 ∧ off = off2 := by
                   injection hA2 with hA2
                   injection hA2 with h1 h2
                   exact ⟨h1, h2⟩
                 rw [show off + (k + 1 + j) * 2 = off + (k + 1) * 2 + j * 2 by omega] at hd1 hd2'
                 obtain ⟨X2, hX2⟩ : ∃ X2, X2 = rk l2 (k + 1 + j) := ⟨_, rfl⟩
                 obtain ⟨Y2, hY2⟩ : ∃ Y2, Y2 = rv l2 (k + 1 + j) := ⟨_, rfl⟩
                 have HX2 := Lib.hid hX2
                 rw [← hX2] at hd1
                 rw [← hY2] at hd2'
                 have HW3 := Lib.hid (hWi.out.alloc (o := .cells #[.string X2, .string Y2] 23) hWi.out.size)
                 have HB3 := Lib.hid (hBi.out.alloc (.cells #[.string X2, .string Y2] 23))
                 clear hX2 hY2 hA2
                 by_cases he : X2 = X
                 · have e1 : (X2.toList == X.toList) = true := by rw [he]; simp
                   have HL3 : Hid (LastTo l2 k (j + 1) false) := Lib.hid (LastTo.stop (by rw [← HX2.out, ← HX.out, he]))
                   clear he
                   cases q with
                   | true =>
                     go_wp2
                     go_roundw
                     case rel => exact ⟨j + 1, false, by omega, rfl, by go_num, HL3, HB3, HW3⟩
                     case measure => simp [intOf]; omega
                   | false =>
                     go_wp2
                     go_roundw
                     case rel => exact ⟨j + 1, false, by omega, rfl, by go_num, HL3, HB3, HW3⟩
                     case measure => simp [intOf]; omega
                 · have e1 : (X2.toList == X.toList) = false := by
                     rw [toList_bl, toList_bl, beq_eq_false_iff_ne]
                     exact fun h => he (bl_inj h)
                   have HL3 : Hid (LastTo l2 k (j + 1) q) := Lib.hid (hL.out.step (by rw [← HX2.out, ← HX.out]; exact he))
                   clear he
                   cases q with
                   | true =>
                     go_wp2
                     go_roundw
                     case rel => exact ⟨j + 1, true, by omega, rfl, by go_num, HL3, HB3, HW3⟩
                     case measure => simp [intOf]; omega
                   | false =>
                     go_wp2
                     go_roundw
                     case rel => exact ⟨j + 1, false, by omega, rfl, by go_num, HL3, HB3, HW3⟩
                     case measure => simp [intOf]; omega)
          · obtain rfl : j = d := by omega
            have HF := Lib.hid (specFind A n c B l X wr HN.out (HR.out.below (hWi.out.mono hB)) (by have := hWi.out.size; omega) hl)
            have hHk : Hid (q = true → ∃ i, i < l.length ∧ rk l i = X ∧ rv l i = Y ∧ ∀ j, j < l.length → rk l j = X → j = i) := Lib.hid (fun hq => by
              rw [HX.out, HY.out]
              exact HH.out k HKM.out (fun i h1 h2 => hL.out.1 hq i h1 (by rw [HM.out] at h2; omega)))
            go_wp2_with fail
            refine HF.out.mono ?_
            rintro e w4 ⟨V, f, rfl, hF, hb4⟩
            have HW4 := Lib.hid (hWi.out.trans (hb4.mono hWi.out.size))
            have q0 : w4.cell? ⟨w1.heap.size, 0, none⟩ = some (.string X) := (hb4.cell (p := ⟨w1.heap.size, 0, none⟩) hlt0).trans p0
            have q1 : w4.cell? ⟨w1.heap.size, 1, none⟩ = some (.string Y) := (hb4.cell (p := ⟨w1.heap.size, 1, none⟩) hlt0).trans p1
            have hfin : q = true → f = true ∧ V = Y := fun hq => by
              obtain ⟨i, h1, h2, h3, h4⟩ := hHk.out hq
              obtain ⟨g1, g2⟩ := hF i h1 h2 h4
              exact ⟨g1, by rw [g2, h3]⟩
            clear hF hb4 HF p0 p1
            cases q with
            | true =>
              obtain ⟨rfl, rfl⟩ := hfin rfl
              have e1 : (V.toList == V.toList) = true := by simp
              go_wp2
              go_roundw
              case rel => exact ⟨k + 1, by omega, by go_num, HW4⟩
              case measure => simp [intOf]; omega
            | false =>
              clear hfin
              go_wp2
              go_roundw
              case rel => exact ⟨k + 1, by omega, by go_num, HW4⟩
              case measure => simp [intOf]; omega
    · obtain rfl : k = m := by omega
      go_wp2
      go_ret
      exact ⟨rfl, hW.out⟩
end Go.Proofs.YtlchagphjmfooaaDoor
