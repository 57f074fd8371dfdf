/- The law FnNumber. -/
import Derived.Test.YtagjbndcbcepcaaDoorNumS
import Derived.Test.YtagjbndcbcepcaaDoorNumI
import Derived.Test.YtagjbndcbcepcaaDoorOctL
namespace Go.Proofs.YtagjbndcbcepcaaDoor
open Go.RowKit Go.PlainAid
set_option linter.unusedVariables false

theorem specNumber (A : Option Addr) (n c B : Nat) (bs : List UInt8) (w : World) (hn : bs.length = n) (hr : RB w B A bs) (hnc : n ≤ c) (hm : n ≤ 70368744177664) :
    Calls Tryd.prog 15 #[.slice A n c] w (NumSP bs w) := by
  by_cases hx : ∀ c r, bs = c :: r → c.toNat < 128
  · exact specNum_oct A n c B bs w hn hr hnc hm hx
  · cases bs with
    | nil => exact absurd (fun c r h => by cases h) hx
    | cons x r =>
      have hx1 : 128 ≤ x.toNat := by
        rcases Nat.lt_or_ge x.toNat 128 with h | h
        · exact absurd (fun c r' h' => by cases h'; exact h) hx
        · exact h
      obtain ⟨m, rfl⟩ : ∃ m, n = m + 1 := ⟨r.length, by simpa using hn.symm⟩
      have hn' : r.length = m := by simpa using hn
      by_cases h1 : x.toNat = 128
      · exact specNum_pos A m c B x r w hn' hr hnc hm h1
      by_cases h2 : x.toNat = 255
      · exact specNum_neg A m c B x r w hn' hr hnc hm h2
      exact specNum_open A (m + 1) c B x r w hn hr hnc hm hx1 h1 h2
/-- What the documents say and what is read. -/
theorem numR_of_numS {bs : List UInt8} {x y v : Int} {ok : Bool} (hS : NumS bs x v) (hR : NumR bs y ok) : v = 0 ∨ (v = 2 ∧ ok = false) ∨ (v = 1 ∧ ok = true ∧ y = x) := by
  rcases hS with h | ⟨h, hS⟩ | ⟨rfl, c, r, rfl, hc, hlt, rfl⟩
  · exact .inl h
  · rcases hR with ⟨_, hR⟩ | ⟨c, r, rfl, hc, _⟩
    · exact octR_of_octS hS hR
    · have := h c r rfl
      omega
  · rcases hR with ⟨h, _⟩ | ⟨c', r', e, _, hR⟩
    · have := h c r rfl
      omega
    · cases e
      rcases hR with ⟨_, h1, h2⟩ | ⟨h, _⟩
      · exact .inr (.inr ⟨rfl, h1, h2⟩)
      · omega

set_option maxRecDepth 20000 in
set_option maxHeartbeats 400000 in
theorem fnNumber_walk {a a1 a2 : Addr} (A : Option Addr) (n c : Nat) (bs : List UInt8) (w : World) (hn : bs.length = n) (hr : RB w w.heap.size A bs) (hnc : n ≤ c) (hm : n ≤ 9223372036854775807)
    (hE : Err w.heap.size w 0 a) (hE1 : Err w.heap.size w 2 a1) (hE2 : Err w.heap.size w 3 a2) :
    Calls Tryd.prog 5 #[.slice A n c] w fun e w' => e = .returned (.bool true) ∧ Below w.heap.size w w' := by
  have HN := Lib.hid hn
  have HR := Lib.hid hr
  have HE := Lib.hid hE
  have HE1 := Lib.hid hE1
  have HE2 := Lib.hid hE2
  clear hn hr hE hE1 hE2
  by_cases hbig : 2147483647 < n
  · go_enter Tryd.func5, Tryd.ntmps5
    go_wp2
    go_ret
    exact ⟨rfl, Below.refl _ _⟩
  · go_enter Tryd.func5, Tryd.ntmps5
    go_wp2_with fail
    refine (specNumber A n c _ bs _ HN.out HR.out hnc (by omega)).mono ?_
    rintro e w1 ⟨⟨x, v, rfl, hS⟩, rfl⟩
    go_wp2_with fail
    refine (implNumber A n c _ bs _ HN.out HR.out (Nat.le_refl _) (by omega) HE.out HE1.out HE2.out).mono ?_
    rintro e w1 ⟨y, ok, rfl, hR, hb⟩
    have HB := Lib.hid hb
    have hP := numR_of_numS hS hR
    clear hS hR hb
    rcases hP with rfl | ⟨rfl, rfl⟩ | ⟨rfl, rfl, rfl⟩
    · go_wp2
      go_ret
      exact ⟨rfl, HB.out⟩
    · go_wp2
      go_ret
      exact ⟨rfl, HB.out⟩
    · go_wp2
      go_ret
      exact ⟨rfl, HB.out⟩
end Go.Proofs.YtagjbndcbcepcaaDoor
