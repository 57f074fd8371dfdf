/- spec.Octal: a field of digits and what ends them is told Right. (The walk is OctS's, with the reasons for Open.) -/
import Derived.Test.YtagjbndcbcepcaaDoorOctS
namespace Go.Proofs.YtagjbndcbcepcaaDoor
open Go.RowKit Go.PlainAid
set_option linter.unusedVariables false

/-- Digits, and behind them what ends them. -/
def Good (bs : List UInt8) : Prop := ∃ d e, bs = d ++ e ∧ all8 d ∧ d ≠ [] ∧ d.length ≤ 21 ∧ e ≠ [] ∧ allEnd e
theorem good_at {bs : List UInt8} (h : Good bs) : ∃ m, 1 ≤ m ∧ m ≤ 21 ∧ m < bs.length ∧ (∀ q z, q < m → bs[q]? = some z → d8 z) ∧ (∀ q z, m ≤ q → bs[q]? = some z → isEnd z) := by
  obtain ⟨d, e, rfl, h1, h2, h3, h4, h5⟩ := h
  refine ⟨d.length, List.length_pos_iff.2 h2, h3, ?_, fun q z hq hz => ?_, fun q z hq hz => ?_⟩
  · rw [List.length_append]
    have := List.length_pos_iff.2 h4
    omega
  · rw [List.getElem?_append_left hq] at hz
    exact h1 z (List.mem_of_getElem? hz)
  · rw [List.getElem?_append_right hq] at hz
    exact h5 z (List.mem_of_getElem? hz)
theorem bad_first {bs : List UInt8} {x : UInt8} (h : bs[0]? = some x) (hx : isEnd x) : ¬ Good bs := fun g => by
  obtain ⟨m, h1, _, _, h4, _⟩ := good_at g
  exact d8_noEnd (h4 0 x (by omega) h) hx
theorem bad_long {bs : List UInt8} {i : Nat} (h : all8 (bs.take i)) (hi : 21 < i) : ¬ Good bs := fun g => by
  obtain ⟨m, h1, h2, h3, h4, h5⟩ := good_at g
  have hz := List.getElem?_eq_getElem h3
  refine d8_noEnd (h _ ?_) (h5 m _ (Nat.le_refl _) hz)
  rw [List.mem_iff_getElem?]
  exact ⟨m, by rw [List.getElem?_take_of_lt (by omega)]; exact hz⟩
theorem bad_all {bs : List UInt8} (h : all8 bs) : ¬ Good bs := fun g => by
  obtain ⟨m, h1, h2, h3, h4, h5⟩ := good_at g
  have hz := List.getElem?_eq_getElem h3
  exact d8_noEnd (h _ (List.mem_of_getElem? hz)) (h5 m _ (Nat.le_refl _) hz)
theorem bad_tail {bs : List UInt8} {k j : Nat} {x y : UInt8} (hx : bs[k]? = some x) (he : isEnd x) (hy : bs[k + j]? = some y) (hny : ¬ isEnd y) : ¬ Good bs := fun g => by
  obtain ⟨m, h1, h2, h3, h4, h5⟩ := good_at g
  by_cases hk : k < m
  · exact d8_noEnd (h4 k x hk hx) he
  · exact hny (h5 (k + j) y (by omega) hy)
def OctSG (bs : List UInt8) (x v : Int) : Prop :=
  (v = 0 ∧ ¬ Good bs) ∨ (v = 2 ∧ ∃ d y r, bs = d ++ y :: r ∧ all8 d ∧ ¬ isEnd y ∧ ¬ d8 y) ∨ (v = 1 ∧ ∃ d e, bs = d ++ e ∧ all8 d ∧ d ≠ [] ∧ d.length ≤ 21 ∧ e ≠ [] ∧ allEnd e ∧ x = (v8 0 d : Int))
def OctSGP (bs : List UInt8) (w : World) (e : Ending) (w' : World) : Prop := (∃ x v, e = .returned (.tuple #[.int .i64 x, .int .i64 v]) ∧ OctSG bs x v) ∧ w = w'

set_option maxHeartbeats 3200000 in
set_option maxRecDepth 20000 in
theorem specOctalG (A : Option Addr) (n c B : Nat) (bs : List UInt8) (w : World) (hn : bs.length = n) (hr : RB w B A bs) (hnc : n ≤ c) (hm : n ≤ 70368744177664) :
    Calls Tryd.prog 9 #[.slice A n c] w (OctSGP bs w) := by
  have HN := Lib.hid hn
  have HR := Lib.hid hr
  clear hn hr
  go_enter Tryd.func9, Tryd.ntmps9
  go_wp2
  go_loop [5] (fun v => ∃ k : Nat, k ≤ n ∧ v = .int .i64 k ∧ Hid (all8 (bs.take k))) (fun v => n - (intOf v).toNat)
  case atStart => exact ⟨0, by omega, rfl, Lib.hid (fun c hc => by simp at hc)⟩
  case round =>
    obtain ⟨i, hi, rfl, hD⟩ := hrel
    by_cases hlt : i < n
    · obtain ⟨b, off, rfl, _, hc⟩ := HR.out (by rw [HN.out]; omega)
      have hcell := hc i (by rw [HN.out]; exact hlt)
      obtain ⟨x, hx1, hx2⟩ := byt_of (bs := bs) (k := i) (by rw [HN.out]; exact hlt)
      have HX := Lib.hid hx1
      have HC := Lib.hid hc
      rw [hx2] at hcell
      have x255 := x.toNat_lt
      clear hc hx1 hx2
      by_cases he : endI (x.toNat : Int)
      · -- the digits have ended
        have HE : Hid (endB (x.toNat : Int) = true) := Lib.hid (endB_yes he)
        have HEND := Lib.hid ((endI_of x).1 he)
        clear he
        have hin : (i : Int) < (n : Int) := by omega
        by_cases hi0 : i = 0
        · subst hi0
          rw [Nat.add_zero] at hcell
          have hin0 : (0 : Int) < (n : Int) := by omega
          go_wp2_with (go_at_call 22; refine (ends_b _ _).mono ?_; rw [HE.out]; rintro e w' ⟨rfl, rfl⟩)
          go_ret2
          exact ⟨⟨0, 0, rfl, .inl ⟨rfl, bad_first HX.out HEND.out⟩⟩, rfl⟩
        have hi0' : ((i : Int) == 0) = false := by rw [beq_eq_false_iff_ne]; omega
        have hin' : ((i : Int) == (n : Int)) = false := by rw [beq_eq_false_iff_ne]; omega
        by_cases hi21 : 21 < i
        · have hi21' : (21 : Int) < (i : Int) := by omega
          go_wp2_with (go_at_call 22; refine (ends_b _ _).mono ?_; rw [HE.out]; rintro e w' ⟨rfl, rfl⟩)
          go_ret2
          exact ⟨⟨0, 0, rfl, .inl ⟨rfl, bad_long hD.out hi21⟩⟩, rfl⟩
        have hi21' : ¬ (21 : Int) < (i : Int) := by omega
        have hic : (i : Int) ≤ (c : Int) := by omega
        have hin3 : (i : Int) ≤ (n : Int) := by omega
        go_wp2_with (go_at_call 22; refine (ends_b _ _).mono ?_; rw [HE.out]; rintro e w' ⟨rfl, rfl⟩)
        have HI0 := Lib.hid hi0
        clear HE hcell hi0 hin' hi0' hin
        -- the number
        go_loop [4, 52] (fun v4 v52 => ∃ k : Nat, k ≤ i ∧ v52 = .int .i64 k ∧ v4 = .int .i64 ((v8 0 (bs.take k) : Nat) : Int)) (fun _ v52 => i - (intOf v52).toNat)
        case atStart => exact ⟨0, by omega, rfl, by simp [v8]⟩
        case round =>
          obtain ⟨k, hk, rfl, rfl⟩ := hrel
          by_cases hlt2 : k < i
          · have hcell2 := HC.out k (by rw [HN.out]; omega)
            obtain ⟨y, hy1, hy2⟩ := byt_of (bs := bs) (k := k) (by rw [HN.out]; omega)
            rw [hy2] at hcell2
            have HY := Lib.hid hy1
            have hyd : d8 y := hD.out y (by
              rw [List.mem_iff_getElem?]
              exact ⟨k, by rw [List.getElem?_take_of_lt hlt2]; exact hy1⟩)
            unfold d8 at hyd
            obtain ⟨d, hd⟩ : ∃ d : Int, (y.toNat : Int) = 48 + d := ⟨(y.toNat : Int) - 48, by omega⟩
            have hd0 : 0 ≤ d := by omega
            have hd7 : d ≤ 7 := by omega
            have hd' : (48 : Int) + d - 48 = d := by omega
            have HV := Lib.hid (v8_take hy1 (by unfold d8; exact hyd) d hd)
            have hvl := v8_lt (bs := bs) (k := k + 1) (i := i) hD.out (by omega) (by omega)
            rw [hd] at hcell2
            obtain ⟨V, hV⟩ : ∃ V : Nat, V = v8 0 (bs.take k) := ⟨_, rfl⟩
            rw [← hV] at HV ⊢
            have hVl : (V : Int) * 8 + d < 9223372036854775808 := by have := HV.out; omega
            have hklt : (k : Int) < (i : Int) := by omega
            go_wp2
            refine ⟨⟨k + 1, by omega, by rw [Int.natCast_add]; rfl, by rw [HV.out, hV]⟩, by simp [intOf]; omega⟩
          · obtain rfl : k = i := by omega
            obtain ⟨V, hV⟩ : ∃ V : Nat, V = v8 0 (bs.take k) := ⟨_, rfl⟩
            have HV := Lib.hid hV
            rw [← hV]
            clear hV
            have hck : ((c : Int) - (k : Int) == 0) = false := by rw [beq_eq_false_iff_ne]; omega
            go_wp2
            go_loop [67] (fun v => ∃ j : Nat, k + j ≤ n ∧ v = .int .i64 j ∧ Hid (∀ q, k ≤ q → q < k + j → ∀ z, bs[q]? = some z → isEnd z)) (fun v => n - (intOf v).toNat)
            case atStart => exact ⟨0, by omega, rfl, Lib.hid (fun q h1 h2 => by omega)⟩
            case round =>
              obtain ⟨j, hj, rfl, hQ⟩ := hrel
              by_cases hlt3 : k + j < n
              · have hcell3 := HC.out (k + j) (by rw [HN.out]; omega)
                obtain ⟨y, hy1, hy2⟩ := byt_of (bs := bs) (k := k + j) (by rw [HN.out]; omega)
                rw [hy2] at hcell3
                have hjlt : (j : Int) < (n : Int) - (k : Int) := by omega
                have y255 := y.toNat_lt
                rw [← Nat.add_assoc] at hcell3
                have HY := Lib.hid hy1
                clear hy1 hy2
                by_cases he2 : endI (y.toNat : Int)
                · have HE2 : Hid (endB (y.toNat : Int) = true) := Lib.hid (endB_yes he2)
                  have HQ2 : Hid (∀ q, k ≤ q → q < k + (j + 1) → ∀ z, bs[q]? = some z → isEnd z) := Lib.hid (by
                    intro q h1 h2 z hz
                    by_cases hq : q < k + j
                    · exact hQ.out q h1 hq z hz
                    · have : q = k + j := by omega
                      rw [this, HY.out] at hz
                      rw [← Option.some.inj hz]
                      exact (endI_of y).1 he2)
                  clear he2
                  go_wp2_with (go_at_call 22; refine (ends_b _ _).mono ?_; rw [HE2.out]; rintro e w' ⟨rfl, rfl⟩)
                  refine ⟨⟨j + 1, by omega, by rw [Int.natCast_add]; rfl, HQ2⟩, by simp [intOf]; omega⟩
                · have HE2 : Hid (endB (y.toNat : Int) = false) := Lib.hid (endB_no he2)
                  have HNY : Hid (¬ isEnd y) := Lib.hid (fun h => he2 ((endI_of y).2 h))
                  clear he2
                  go_wp2_with (go_at_call 22; refine (ends_b _ _).mono ?_; rw [HE2.out]; rintro e w' ⟨rfl, rfl⟩)
                  go_ret2
                  exact ⟨⟨0, 0, rfl, .inl ⟨rfl, bad_tail HX.out HEND.out HY.out HNY.out⟩⟩, rfl⟩
              · have hjlt : ¬ (j : Int) < (n : Int) - (k : Int) := by omega
                go_wp2
                go_ret2
                refine ⟨⟨_, 1, rfl, .inr (.inr ⟨rfl, bs.take k, bs.drop k, (List.take_append_drop _ _).symm, hD.out, ?_, ?_, ?_, ?_, by rw [HV.out]⟩)⟩, rfl⟩
                · intro h
                  have := congrArg List.length h
                  have h0 := HI0.out
                  rw [List.length_take, List.length_nil, HN.out] at this
                  omega
                · rw [List.length_take]
                  omega
                · intro h
                  have := congrArg List.length h
                  rw [List.length_drop, List.length_nil, HN.out] at this
                  omega
                · intro z hz
                  obtain ⟨m, hm2⟩ := List.mem_iff_getElem?.1 hz
                  rw [List.getElem?_drop] at hm2
                  obtain ⟨hml, _⟩ := List.getElem?_eq_some_iff.1 hm2
                  rw [HN.out] at hml
                  exact hQ.out (k + m) (by omega) (by omega) z hm2
      · -- a sign, and no end
        have HE : Hid (endB (x.toNat : Int) = false) := Lib.hid (endB_no he)
        have HNE : Hid (¬ isEnd x) := Lib.hid (fun h => he ((endI_of x).2 h))
        clear he
        have hin : (i : Int) < (n : Int) := by omega
        by_cases h48 : (x.toNat : Int) < 48
        · go_wp2_with (go_at_call 22; refine (ends_b _ _).mono ?_; rw [HE.out]; rintro e w' ⟨rfl, rfl⟩)
          go_ret2
          exact ⟨⟨0, 2, rfl, .inr (.inl ⟨rfl, _, _, _, split_at HX.out, hD.out, HNE.out, by unfold d8; omega⟩)⟩, rfl⟩
        by_cases h55 : 55 < (x.toNat : Int)
        · go_wp2_with (go_at_call 22; refine (ends_b _ _).mono ?_; rw [HE.out]; rintro e w' ⟨rfl, rfl⟩)
          go_ret2
          exact ⟨⟨0, 2, rfl, .inr (.inl ⟨rfl, _, _, _, split_at HX.out, hD.out, HNE.out, by unfold d8; omega⟩)⟩, rfl⟩
        have hall := Lib.hid (all8_take hD.out HX.out (by unfold d8; omega))
        go_wp2_with (go_at_call 22; refine (ends_b _ _).mono ?_; rw [HE.out]; rintro e w' ⟨rfl, rfl⟩)
        refine ⟨⟨i + 1, by omega, by rw [Int.natCast_add]; rfl, hall⟩, by simp [intOf]; omega⟩
    · obtain rfl : i = n := by omega
      have HALL : Hid (all8 bs) := Lib.hid (by have := hD.out; rwa [List.take_of_length_le (by rw [HN.out]; exact Nat.le_refl _)] at this)
      by_cases hi0 : i = 0
      · have hi0' : ((i : Int) == 0) = true := by rw [beq_iff_eq]; omega
        go_wp2
        go_ret2
        exact ⟨⟨0, 0, rfl, .inl ⟨rfl, bad_all (HALL.out)⟩⟩, rfl⟩
      have hi0' : ((i : Int) == 0) = false := by rw [beq_eq_false_iff_ne]; omega
      go_wp2
      go_ret2
      exact ⟨⟨0, 0, rfl, .inl ⟨rfl, bad_all (HALL.out)⟩⟩, rfl⟩
/-- A good field is told Right, with its number. -/
theorem octSG_good {bs : List UInt8} {x v : Int} {d e : List UInt8} (h : OctSG bs x v) (hb : bs = d ++ e) (hd : all8 d) (hn : d ≠ []) (hl : d.length ≤ 21) (he : e ≠ []) (hE : allEnd e) : v = 1 ∧ x = (v8 0 d : Int) := by
  rcases h with ⟨_, h⟩ | ⟨_, d', y, r, h1, h2, h3, h4⟩ | ⟨h, d', e', h1, h2, _, _, h5, h6, h7⟩
  · exact absurd ⟨d, e, hb, hd, hn, hl, he, hE⟩ h
  · exfalso
    have hy : y ∈ d ++ e := by rw [← hb, h1]; simp
    rcases List.mem_append.1 hy with h | h
    · exact h4 (hd y h)
    · exact h3 (hE y h)
  · refine ⟨h, ?_⟩
    have hdd : d' = d := by
      have e0 : d ++ e = d' ++ e' := hb.symm.trans h1
      rcases List.append_eq_append_iff.1 e0 with ⟨a, e1, e2⟩ | ⟨a, e1, e2⟩
      · cases a with
        | nil => rw [e1, List.append_nil]
        | cons z a =>
          exfalso
          exact d8_noEnd (h2 z (by rw [e1]; simp)) (hE z (by rw [e2]; simp))
      · cases a with
        | nil => rw [e1, List.append_nil]
        | cons z a =>
          exfalso
          exact d8_noEnd (hd z (by rw [e1]; simp)) (h6 z (by rw [e2]; simp))
    rw [h7, hdd]
end Go.Proofs.YtagjbndcbcepcaaDoor
