/- bytes.Trim at the set of a space and a byte 0: the walks. -/
import Derived.Test.YtagjbndcbcepcaaDoorTrB
namespace Go.Proofs.YtagjbndcbcepcaaDoor
open Go.RowKit Go.PlainAid
set_option linter.unusedVariables false

/-- The block of the set. -/
def SetAt (w : World) (S : Nat) : Prop := ∀ x : UInt8, w.cell? ⟨S, x.toNat, none⟩ = some (.bool (([32, 0] : List UInt8).contains x))
theorem setAt_new (w : World) (t : TypeId) : SetAt (w.alloc (.cells (Lib.setCells [32, 0]) t)) w.heap.size := fun x => by
  rw [cell_of_row _ _ _ _ t (0, 0) (heap_alloc_new w _)]
  exact Lib.setCells_at [32, 0] x
theorem contains_end (x : UInt8) : ([32, 0] : List UInt8).contains x = true ↔ isEnd x := by
  simp [isEnd]
set_option maxHeartbeats 400000 in
set_option maxRecDepth 20000 in
theorem setHas (S : Nat) (x : UInt8) (w : World) (h : SetAt w S) :
    Calls Tryd.prog 60 #[.pointer (some ⟨S, 0, none⟩), .int .u8 x.toNat] w fun e w' => e = .returned (.bool (([32, 0] : List UInt8).contains x)) ∧ w = w' := by
  have hc := h x
  have hx256 : (x.toNat : Int) < 256 := by have := UInt8.toNat_lt x; omega
  obtain ⟨v, hv⟩ : ∃ v, ([32, 0] : List UInt8).contains x = v := ⟨_, rfl⟩
  rw [hv] at hc ⊢
  clear h hv
  go_enter Tryd.func60, Tryd.ntmps60
  go_wp2
  go_ret
  exact ⟨rfl, rfl⟩
theorem byt_at {bs : List UInt8} {k : Nat} (h : k < bs.length) : ∃ x : UInt8, bs[k]? = some x ∧ byt bs k = (x.toNat : Int) := ⟨bs[k], List.getElem?_eq_getElem h, by simp [byt, List.getD, h]⟩
theorem setHasI (S : Nat) (i : Int) (b : Bool) (x : UInt8) (w : World) (h : SetAt w S) (hi : i = (x.toNat : Int)) (hb : ([32, 0] : List UInt8).contains x = b) :
    Calls Tryd.prog 60 #[.pointer (some ⟨S, 0, none⟩), .int .u8 i] w fun e w' => e = .returned (.bool b) ∧ w = w' := by
  subst hi hb
  exact setHas S x w h

set_option maxHeartbeats 800000 in
set_option maxRecDepth 20000 in
theorem trimRightA (A : Option Addr) (n c B S : Nat) (bs : List UInt8) (w : World) (hn : bs.length = n) (hr : RB w B A bs) (hS : SetAt w S) (hnc : n ≤ c) (hm : n ≤ 70368744177664) :
    Calls Tryd.prog 46 #[.slice A n c, .pointer (some ⟨S, 0, none⟩)] w fun e w' => (∃ m, m ≤ n ∧ allEnd (bs.drop m) ∧ (∀ x, (bs.take m).getLast? = some x → ¬ isEnd x) ∧ e = .returned (.slice A m c)) ∧ w = w' := by
  have HN := Lib.hid hn
  have HR := Lib.hid hr
  have HS := Lib.hid hS
  clear hn hr hS
  go_enter Tryd.func46, Tryd.ntmps46
  go_wp2
  go_loop [0] (fun v => ∃ m : Nat, m ≤ n ∧ v = .slice A m c ∧ Hid (allEnd (bs.drop m))) (fun v => (match v with | .slice _ m _ => m | _ => 0))
  case atStart => exact ⟨n, by omega, rfl, Lib.hid (by rw [List.drop_of_length_le (by rw [HN.out]; omega)]; intro x hx; simp at hx)⟩
  case round =>
    obtain ⟨m, hm, rfl, hE⟩ := hrel
    by_cases h0 : 0 < m
    · obtain ⟨b, off, rfl, _, hc⟩ := HR.out (by rw [HN.out]; omega)
      have hcell := hc (m - 1) (by rw [HN.out]; omega)
      obtain ⟨x, hx1, hx2⟩ := byt_at (bs := bs) (k := m - 1) (by rw [HN.out]; omega)
      rw [hx2] at hcell
      have HX := Lib.hid hx1
      have w1 : IntKind.i64.wrap ((m : Int) - 1) = (m : Int) - 1 := IntWalk.i64_in _ (by omega)
      have w2 : ((m : Int) - 1).toNat = m - 1 := by omega
      have w3 : (0 : Int) ≤ (m : Int) - 1 := by omega
      have w4 : (m : Int) - 1 < (m : Int) := by omega
      have w5 : (m : Int) - 1 ≤ (c : Int) := by omega
      have w6 : (m : Int) - 1 ≤ (m : Int) := by omega
      clear hc hx1 hx2
      obtain ⟨d, hd⟩ : ∃ d, ([32, 0] : List UInt8).contains x = d := ⟨_, rfl⟩
      have HD := Lib.hid hd
      clear hd
      cases d with
      | true =>
        have HE : Hid (allEnd (bs.drop (m - 1))) := Lib.hid (fun y hy => by
          have hlt : m - 1 < bs.length := by rw [HN.out]; omega
          rw [List.drop_eq_getElem_cons hlt] at hy
          rcases List.mem_cons.1 hy with h | h
          · have e := HX.out
            rw [List.getElem?_eq_getElem hlt] at e
            rw [h, Option.some.inj e]
            exact (contains_end x).1 HD.out
          · exact hE.out y (by rwa [show m - 1 + 1 = m by omega] at h))
        go_wp2_with (go_at_call 60; refine (setHasI S _ true x _ HS.out rfl HD.out).mono ?_; rintro e w' ⟨rfl, rfl⟩)
        go_round
        case rel => exact ⟨m - 1, by omega, rfl, HE⟩
        case measure => simp; omega
      | false =>
        have HL : Hid (∀ y, (bs.take m).getLast? = some y → ¬ isEnd y) := Lib.hid (fun y hy => by
          have hlt : m - 1 < bs.length := by rw [HN.out]; omega
          have e2 : bs.take m = bs.take (m - 1) ++ [x] := by
            have e := HX.out
            rw [List.getElem?_eq_getElem hlt] at e
            have e3 := List.take_succ_eq_append_getElem hlt
            rw [Option.some.inj e, show m - 1 + 1 = m by omega] at e3
            exact e3
          rw [e2, List.getLast?_append] at hy
          have e4 : x = y := by simpa using hy
          rw [← e4]
          intro he
          have := (contains_end x).2 he
          rw [HD.out] at this
          cases this)
        go_wp2_with (go_at_call 60; refine (setHasI S _ false x _ HS.out rfl HD.out).mono ?_; rintro e w' ⟨rfl, rfl⟩)
        go_ret
        exact ⟨⟨m, by omega, hE.out, HL.out, rfl⟩, rfl⟩
    · obtain rfl : m = 0 := by omega
      go_wp2
      go_ret
      exact ⟨⟨0, by omega, hE.out, fun y hy => by simp at hy, rfl⟩, rfl⟩
end Go.Proofs.YtagjbndcbcepcaaDoor
