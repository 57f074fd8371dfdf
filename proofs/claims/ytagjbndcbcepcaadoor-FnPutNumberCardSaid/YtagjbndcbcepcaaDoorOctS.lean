/- spec.Octal, case by case. -/
import Derived.Test.YtagjbndcbcepcaaDoorO8
import Derived.Test.YtagjbndcbcepcaaDoorBelow
import Derived.Test.YtagjbndcbcepcaaDoorO
import Derived.Deep.CutBlock
import Derived.Deep.DeepCutAuto
namespace Go.Proofs.YtagjbndcbcepcaaDoor
open Go.RowKit Go.PlainAid
set_option linter.unusedVariables false

theorem byt_of {bs : List UInt8} {k : Nat} (h : k < bs.length) : ∃ x : UInt8, bs[k]? = some x ∧ byt bs k = (x.toNat : Int) := ⟨bs[k], List.getElem?_eq_getElem h, by simp [byt, List.getD, h]⟩
def endI (i : Int) : Prop := i = 32 ∨ i = 0
theorem endI_of (x : UInt8) : endI (x.toNat : Int) ↔ isEnd x := by
  unfold endI isEnd
  constructor
  · rintro (h | h)
    · exact .inl (UInt8.toNat_inj.1 (by have : (32 : UInt8).toNat = 32 := rfl; omega))
    · exact .inr (UInt8.toNat_inj.1 (by have : (0 : UInt8).toNat = 0 := rfl; omega))
  · rintro (rfl | rfl)
    · exact .inl rfl
    · exact .inr rfl
set_option maxHeartbeats 400000 in
set_option maxRecDepth 20000 in
theorem ends_yes (i : Int) (w : World) (h : endI i) : Calls Tryd.prog 22 #[.int .u8 i] w fun e w' => e = .returned (.bool true) ∧ w = w' := by
  unfold endI at h
  rcases h with rfl | rfl
  · go_enter Tryd.func22, Tryd.ntmps22
    go_wp2
    go_ret
    exact ⟨rfl, rfl⟩
  · go_enter Tryd.func22, Tryd.ntmps22
    go_wp2
    go_ret
    exact ⟨rfl, rfl⟩
set_option maxHeartbeats 400000 in
set_option maxRecDepth 20000 in
theorem ends_no (i : Int) (w : World) (h : ¬ endI i) : Calls Tryd.prog 22 #[.int .u8 i] w fun e w' => e = .returned (.bool false) ∧ w = w' := by
  unfold endI at h
  have h1 : (i == 32) = false := by rw [beq_eq_false_iff_ne]; exact fun e => h (.inl e)
  have h2 : (i == 0) = false := by rw [beq_eq_false_iff_ne]; exact fun e => h (.inr e)
  clear h
  go_enter Tryd.func22, Tryd.ntmps22
  go_wp2
  go_ret
  exact ⟨rfl, rfl⟩
open Classical in
noncomputable def endB (i : Int) : Bool := decide (endI i)
theorem endB_yes {i : Int} (h : endI i) : endB i = true := by simp [endB, h]
theorem endB_no {i : Int} (h : ¬ endI i) : endB i = false := by simp [endB, h]
theorem ends_b (i : Int) (w : World) : Calls Tryd.prog 22 #[.int .u8 i] w fun e w' => e = .returned (.bool (endB i)) ∧ w = w' := by
  by_cases h : endI i
  · rw [endB_yes h]; exact ends_yes i w h
  · rw [endB_no h]; exact ends_no i w h

/-- What spec.Octal says of a field. -/
def OctS (bs : List UInt8) (x v : Int) : Prop :=
  v = 0 ∨ (v = 2 ∧ ∃ d y r, bs = d ++ y :: r ∧ all8 d ∧ ¬ isEnd y ∧ ¬ d8 y) ∨ (v = 1 ∧ ∃ d e, bs = d ++ e ∧ all8 d ∧ d ≠ [] ∧ d.length ≤ 21 ∧ e ≠ [] ∧ allEnd e ∧ x = (v8 0 d : Int))
def OctSP (bs : List UInt8) (w : World) (e : Ending) (w' : World) : Prop := (∃ x v, e = .returned (.tuple #[.int .i64 x, .int .i64 v]) ∧ OctS bs x v) ∧ w = w'
theorem take_at {bs : List UInt8} {k : Nat} {x : UInt8} (h : bs[k]? = some x) : bs.take (k + 1) = bs.take k ++ [x] := by
  obtain ⟨hl, e⟩ := List.getElem?_eq_some_iff.1 h
  rw [List.take_succ_eq_append_getElem hl, e]
theorem all8_take {bs : List UInt8} {k : Nat} {x : UInt8} (h : all8 (bs.take k)) (hx : bs[k]? = some x) (hd : d8 x) : all8 (bs.take (k + 1)) := by
  rw [take_at hx]
  exact all8_app.2 ⟨h, fun c hc => by rw [List.mem_singleton.1 hc]; exact hd⟩
theorem split_at {bs : List UInt8} {k : Nat} {x : UInt8} (h : bs[k]? = some x) : bs = bs.take k ++ x :: bs.drop (k + 1) := by
  obtain ⟨hl, e⟩ := List.getElem?_eq_some_iff.1 h
  have h2 := List.drop_eq_getElem_cons hl
  rw [e] at h2
  rw [← h2, List.take_append_drop]
theorem v8_take {bs : List UInt8} {k : Nat} {x : UInt8} (hx : bs[k]? = some x) (hd : d8 x) (d : Int) (h : (x.toNat : Int) = 48 + d) : ((v8 0 (bs.take (k + 1)) : Nat) : Int) = ((v8 0 (bs.take k) : Nat) : Int) * 8 + d := by
  unfold d8 at hd
  rw [take_at hx, v8_snoc]
  omega
theorem v8_lt {bs : List UInt8} {k i : Nat} (h : all8 (bs.take i)) (hk : k ≤ i) (hi : i ≤ 21) : v8 0 (bs.take k) < 9223372036854775808 := by
  have h1 : all8 (bs.take k) := fun c hc => h c (by
    have : bs.take k = (bs.take i).take k := by rw [List.take_take, Nat.min_eq_left hk]
    rw [this] at hc
    exact List.mem_of_mem_take hc)
  have h2 := v8_bound (bs.take k) 0 h1
  have h3 : (bs.take k).length ≤ 21 := by rw [List.length_take]; omega
  have h4 := Nat.pow_le_pow_right (n := 8) (by omega) h3
  have h5 : (8 : Nat) ^ 21 = 9223372036854775808 := by decide
  omega

set_option maxHeartbeats 3200000 in
set_option maxRecDepth 20000 in
theorem specOctal (A : Option Addr) (n c B : Nat) (bs : List UInt8) (w : World) (hn : bs.length = n) (hr : RB w B A bs) (hnc : n ≤ c) (hm : n ≤ 70368744177664) :
    Calls Tryd.prog 9 #[.slice A n c] w (OctSP bs w) := by
  have HN := Lib.hid hn
  have HR := Lib.hid hr
  clear hn hr
  go_enter Tryd.func9, Tryd.ntmps9
  go_wp2
  go_loop [5] (fun v => ∃ k : Nat, k ≤ n ∧ v = .int .i64 k ∧ Hid (all8 (bs.take k))) (fun v => n - (intOf v).toNat)
  case atStart => exact ⟨0, by omega, rfl, Lib.hid (fun c hc => by simp at hc)⟩
  case round =>
    obtain ⟨i, hi, rfl, hD⟩ := hrel
    by_cases hlt : i < n
    · obtain ⟨b, off, rfl, _, hc⟩ := HR.out (by rw [HN.out]; omega)
      have hcell := hc i (by rw [HN.out]; exact hlt)
      obtain ⟨x, hx1, hx2⟩ := byt_of (bs := bs) (k := i) (by rw [HN.out]; exact hlt)
      have HX := Lib.hid hx1
      have HC := Lib.hid hc
      rw [hx2] at hcell
      have x255 := x.toNat_lt
      clear hc hx1 hx2
      by_cases he : endI (x.toNat : Int)
      · -- the digits have ended
        have HE : Hid (endB (x.toNat : Int) = true) := Lib.hid (endB_yes he)
        have HEND := Lib.hid ((endI_of x).1 he)
        clear he
        have hin : (i : Int) < (n : Int) := by omega
        by_cases hi0 : i = 0
        · subst hi0
          rw [Nat.add_zero] at hcell
          have hin0 : (0 : Int) < (n : Int) := by omega
          go_wp2_with (go_at_call 22; refine (ends_b _ _).mono ?_; rw [HE.out]; rintro e w' ⟨rfl, rfl⟩)
          go_ret2
          exact ⟨⟨0, 0, rfl, .inl rfl⟩, rfl⟩
        have hi0' : ((i : Int) == 0) = false := by rw [beq_eq_false_iff_ne]; omega
        have hin' : ((i : Int) == (n : Int)) = false := by rw [beq_eq_false_iff_ne]; omega
        by_cases hi21 : 21 < i
        · have hi21' : (21 : Int) < (i : Int) := by omega
          go_wp2_with (go_at_call 22; refine (ends_b _ _).mono ?_; rw [HE.out]; rintro e w' ⟨rfl, rfl⟩)
          go_ret2
          exact ⟨⟨0, 0, rfl, .inl rfl⟩, rfl⟩
        have hi21' : ¬ (21 : Int) < (i : Int) := by omega
        have hic : (i : Int) ≤ (c : Int) := by omega
        have hin3 : (i : Int) ≤ (n : Int) := by omega
        go_wp2_with (go_at_call 22; refine (ends_b _ _).mono ?_; rw [HE.out]; rintro e w' ⟨rfl, rfl⟩)
        have HI0 := Lib.hid hi0
        clear HE hcell hi0 hin' hi0' hin
        -- the number
        go_loop [4, 52] (fun v4 v52 => ∃ k : Nat, k ≤ i ∧ v52 = .int .i64 k ∧ v4 = .int .i64 ((v8 0 (bs.take k) : Nat) : Int)) (fun _ v52 => i - (intOf v52).toNat)
        case atStart => exact ⟨0, by omega, rfl, by simp [v8]⟩
        case round =>
          obtain ⟨k, hk, rfl, rfl⟩ := hrel
          by_cases hlt2 : k < i
          · have hcell2 := HC.out k (by rw [HN.out]; omega)
            obtain ⟨y, hy1, hy2⟩ := byt_of (bs := bs) (k := k) (by rw [HN.out]; omega)
            rw [hy2] at hcell2
            have HY := Lib.hid hy1
            have hyd : d8 y := hD.out y (by
              rw [List.mem_iff_getElem?]
              exact ⟨k, by rw [List.getElem?_take_of_lt hlt2]; exact hy1⟩)
            unfold d8 at hyd
            obtain ⟨d, hd⟩ : ∃ d : Int, (y.toNat : Int) = 48 + d := ⟨(y.toNat : Int) - 48, by omega⟩
            have hd0 : 0 ≤ d := by omega
            have hd7 : d ≤ 7 := by omega
            have hd' : (48 : Int) + d - 48 = d := by omega
            have HV := Lib.hid (v8_take hy1 (by unfold d8; exact hyd) d hd)
            have hvl := v8_lt (bs := bs) (k := k + 1) (i := i) hD.out (by omega) (by omega)
            rw [hd] at hcell2
            obtain ⟨V, hV⟩ : ∃ V : Nat, V = v8 0 (bs.take k) := ⟨_, rfl⟩
            rw [← hV] at HV ⊢
            have hVl : (V : Int) * 8 + d < 9223372036854775808 := by have := HV.out; omega
            have hklt : (k : Int) < (i : Int) := by omega
            go_wp2
            refine ⟨⟨k + 1, by omega, by rw [Int.natCast_add]; rfl, by rw [HV.out, hV]⟩, by simp [intOf]; omega⟩
          · obtain rfl : k = i := by omega
            obtain ⟨V, hV⟩ : ∃ V : Nat, V = v8 0 (bs.take k) := ⟨_, rfl⟩
            have HV := Lib.hid hV
            rw [← hV]
            clear hV
            have hck : ((c : Int) - (k : Int) == 0) = false := by rw [beq_eq_false_iff_ne]; omega
            go_wp2
            go_loop [67] (fun v => ∃ j : Nat, k + j ≤ n ∧ v = .int .i64 j ∧ Hid (∀ q, k ≤ q → q < k + j → ∀ z, bs[q]? = some z → isEnd z)) (fun v => n - (intOf v).toNat)
            case atStart => exact ⟨0, by omega, rfl, Lib.hid (fun q h1 h2 => by omega)⟩
            case round =>
              obtain ⟨j, hj, rfl, hQ⟩ := hrel
              by_cases hlt3 : k + j < n
              · have hcell3 := HC.out (k + j) (by rw [HN.out]; omega)
                obtain ⟨y, hy1, hy2⟩ := byt_of (bs := bs) (k := k + j) (by rw [HN.out]; omega)
                rw [hy2] at hcell3
                have hjlt : (j : Int) < (n : Int) - (k : Int) := by omega
                have y255 := y.toNat_lt
                rw [← Nat.add_assoc] at hcell3
                have HY := Lib.hid hy1
                clear hy1 hy2
                by_cases he2 : endI (y.toNat : Int)
                · have HE2 : Hid (endB (y.toNat : Int) = true) := Lib.hid (endB_yes he2)
                  have HQ2 : Hid (∀ q, k ≤ q → q < k + (j + 1) → ∀ z, bs[q]? = some z → isEnd z) := Lib.hid (by
                    intro q h1 h2 z hz
                    by_cases hq : q < k + j
                    · exact hQ.out q h1 hq z hz
                    · have : q = k + j := by omega
                      rw [this, HY.out] at hz
                      rw [← Option.some.inj hz]
                      exact (endI_of y).1 he2)
                  clear he2
                  go_wp2_with (go_at_call 22; refine (ends_b _ _).mono ?_; rw [HE2.out]; rintro e w' ⟨rfl, rfl⟩)
                  refine ⟨⟨j + 1, by omega, by rw [Int.natCast_add]; rfl, HQ2⟩, by simp [intOf]; omega⟩
                · have HE2 : Hid (endB (y.toNat : Int) = false) := Lib.hid (endB_no he2)
                  clear he2
                  go_wp2_with (go_at_call 22; refine (ends_b _ _).mono ?_; rw [HE2.out]; rintro e w' ⟨rfl, rfl⟩)
                  go_ret2
                  exact ⟨⟨0, 0, rfl, .inl rfl⟩, rfl⟩
              · have hjlt : ¬ (j : Int) < (n : Int) - (k : Int) := by omega
                go_wp2
                go_ret2
                refine ⟨⟨_, 1, rfl, .inr (.inr ⟨rfl, bs.take k, bs.drop k, (List.take_append_drop _ _).symm, hD.out, ?_, ?_, ?_, ?_, by rw [HV.out]⟩)⟩, rfl⟩
                · intro h
                  have := congrArg List.length h
                  have h0 := HI0.out
                  rw [List.length_take, List.length_nil, HN.out] at this
                  omega
                · rw [List.length_take]
                  omega
                · intro h
                  have := congrArg List.length h
                  rw [List.length_drop, List.length_nil, HN.out] at this
                  omega
                · intro z hz
                  obtain ⟨m, hm2⟩ := List.mem_iff_getElem?.1 hz
                  rw [List.getElem?_drop] at hm2
                  obtain ⟨hml, _⟩ := List.getElem?_eq_some_iff.1 hm2
                  rw [HN.out] at hml
                  exact hQ.out (k + m) (by omega) (by omega) z hm2
      · -- a sign, and no end
        have HE : Hid (endB (x.toNat : Int) = false) := Lib.hid (endB_no he)
        have HNE : Hid (¬ isEnd x) := Lib.hid (fun h => he ((endI_of x).2 h))
        clear he
        have hin : (i : Int) < (n : Int) := by omega
        by_cases h48 : (x.toNat : Int) < 48
        · go_wp2_with (go_at_call 22; refine (ends_b _ _).mono ?_; rw [HE.out]; rintro e w' ⟨rfl, rfl⟩)
          go_ret2
          exact ⟨⟨0, 2, rfl, .inr (.inl ⟨rfl, _, _, _, split_at HX.out, hD.out, HNE.out, by unfold d8; omega⟩)⟩, rfl⟩
        by_cases h55 : 55 < (x.toNat : Int)
        · go_wp2_with (go_at_call 22; refine (ends_b _ _).mono ?_; rw [HE.out]; rintro e w' ⟨rfl, rfl⟩)
          go_ret2
          exact ⟨⟨0, 2, rfl, .inr (.inl ⟨rfl, _, _, _, split_at HX.out, hD.out, HNE.out, by unfold d8; omega⟩)⟩, rfl⟩
        have hall := Lib.hid (all8_take hD.out HX.out (by unfold d8; omega))
        go_wp2_with (go_at_call 22; refine (ends_b _ _).mono ?_; rw [HE.out]; rintro e w' ⟨rfl, rfl⟩)
        refine ⟨⟨i + 1, by omega, by rw [Int.natCast_add]; rfl, hall⟩, by simp [intOf]; omega⟩
    · obtain rfl : i = n := by omega
      by_cases hi0 : i = 0
      · have hi0' : ((i : Int) == 0) = true := by rw [beq_iff_eq]; omega
        go_wp2
        go_ret2
        exact ⟨⟨0, 0, rfl, .inl rfl⟩, rfl⟩
      have hi0' : ((i : Int) == 0) = false := by rw [beq_eq_false_iff_ne]; omega
      go_wp2
      go_ret2
      exact ⟨⟨0, 0, rfl, .inl rfl⟩, rfl⟩
end Go.Proofs.YtagjbndcbcepcaaDoor
