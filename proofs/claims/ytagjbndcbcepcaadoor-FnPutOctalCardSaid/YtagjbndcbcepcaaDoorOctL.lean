/- The law FnOctal. -/
import Derived.Test.YtagjbndcbcepcaaDoorOctS
import Derived.Test.YtagjbndcbcepcaaDoorOctI
namespace Go.Proofs.YtagjbndcbcepcaaDoor
open Go.RowKit Go.PlainAid
set_option linter.unusedVariables false

/-- What the documents say and what is read. -/
theorem octR_of_octS {bs : List UInt8} {x y v : Int} {ok : Bool} (hS : OctS bs x v) (hR : OctR bs y ok) : v = 0 ∨ (v = 2 ∧ ok = false) ∨ (v = 1 ∧ ok = true ∧ y = x) := by
  obtain ⟨t, ht, hR⟩ := hR
  rcases hS with rfl | ⟨rfl, d, z, r, rfl, hd, hz, hz8⟩ | ⟨rfl, d, e, rfl, hd, hdn, hdl, hen, he, rfl⟩
  · exact .inl rfl
  · refine .inr (.inl ⟨rfl, ?_⟩)
    obtain ⟨r', rfl⟩ := trim_bad ht hd hz
    rcases hR with ⟨h, _⟩ | ⟨_, ⟨u, hu, _⟩ | ⟨_, h⟩⟩
    · simp at h
    · refine absurd (hu.1 z ?_) hz8
      rw [txt_upTo0]
      exact upTo0_bad hd (fun e => hz (.inr e))
    · exact h
  · refine .inr (.inr ⟨rfl, ?_⟩)
    obtain rfl := trim_digits ht hd hdn he
    have e1 : txt t = t := upTo0_digits hd
    have h1 := v8_bound t 0 hd
    have h4 := Nat.pow_le_pow_right (n := 8) (by omega) hdl
    have h5 : (8 : Nat) ^ 21 = 9223372036854775808 := by decide
    have hlt : v8 0 t < 9223372036854775808 := by omega
    rcases hR with ⟨h, _⟩ | ⟨_, ⟨u, hu, rfl, h⟩ | ⟨h, _⟩⟩
    · exact absurd h hdn
    · rw [e1] at hu
      refine ⟨h, ?_⟩
      rw [← hu.2.1]
      unfold wrap64
      omega
    · refine absurd ?_ (h (v8 0 t))
      rw [e1]
      exact ⟨hd, rfl, by omega⟩

set_option maxRecDepth 20000 in
set_option maxHeartbeats 400000 in
theorem fnOctal_walk {a a1 a2 : Addr} (A : Option Addr) (n c : Nat) (bs : List UInt8) (w : World) (hn : bs.length = n) (hr : RB w w.heap.size A bs) (hnc : n ≤ c) (hm : n ≤ 9223372036854775807)
    (hE : Err w.heap.size w 0 a) (hE1 : Err w.heap.size w 2 a1) (hE2 : Err w.heap.size w 3 a2) :
    Calls Tryd.prog 3 #[.slice A n c] w fun e w' => e = .returned (.bool true) ∧ Below w.heap.size w w' := by
  have HN := Lib.hid hn
  have HR := Lib.hid hr
  have HE := Lib.hid hE
  have HE1 := Lib.hid hE1
  have HE2 := Lib.hid hE2
  clear hn hr hE hE1 hE2
  by_cases hbig : 2147483647 < n
  · go_enter Tryd.func3, Tryd.ntmps3
    go_wp2
    go_ret
    exact ⟨rfl, Below.refl _ _⟩
  · go_enter Tryd.func3, Tryd.ntmps3
    go_wp2_with fail
    refine (specOctal A n c _ bs _ HN.out HR.out hnc (by omega)).mono ?_
    rintro e w1 ⟨⟨x, v, rfl, hS⟩, rfl⟩
    go_wp2_with fail
    refine (implOctal A n c _ bs _ HN.out HR.out (Nat.le_refl _) (by omega) HE.out HE1.out HE2.out).mono ?_
    rintro e w1 ⟨y, ok, rfl, hR, hb⟩
    have HB := Lib.hid hb
    have hP := octR_of_octS hS hR
    clear hS hR hb
    rcases hP with rfl | ⟨rfl, rfl⟩ | ⟨rfl, rfl, rfl⟩
    · go_wp2
      go_ret
      exact ⟨rfl, HB.out⟩
    · go_wp2
      go_ret
      exact ⟨rfl, HB.out⟩
    · go_wp2
      go_ret
      exact ⟨rfl, HB.out⟩
end Go.Proofs.YtagjbndcbcepcaaDoor
