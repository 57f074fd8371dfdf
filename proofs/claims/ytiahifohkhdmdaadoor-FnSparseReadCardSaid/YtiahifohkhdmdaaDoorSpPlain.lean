/- Plain words on a sparse file: its holes, its stream of bytes. No program. -/
import Derived.Test.YtiahifohkhdmdaaDoorPieces
namespace Go.Proofs.YtiahifohkhdmdaaDoor
open Go.RowKit
set_option linter.unusedVariables false

/-- Holes from at on are in order; only the last one may be empty. -/
def okH : Int → List (Int × Int) → Prop
  | _, [] => True
  | at_, h :: H => at_ ≤ h.1 ∧ 0 ≤ h.2 ∧ (H ≠ [] → 1 ≤ h.2) ∧ okH (h.1 + h.2) H
/-- Where the last hole ends. -/
def hend : List (Int × Int) → Int
  | [] => 0
  | [h] => h.1 + h.2
  | _ :: H => hend H
/-- The bytes from p on. -/
def strm : Int → List (Int × Int) → List UInt8 → List UInt8
  | _, [], _ => []
  | p, h :: H, D => D.take (h.1 - p).toNat ++ (zbs (h.1 + h.2 - max p h.1).toNat ++ strm (h.1 + h.2) H (D.drop (h.1 - p).toNat))
/-- How many bytes of data they take. -/
def dlen : Int → List (Int × Int) → Nat
  | _, [] => 0
  | p, h :: H => (h.1 - p).toNat + dlen (h.1 + h.2) H

theorem hend_cons (h : Int × Int) (H : List (Int × Int)) (hH : H ≠ []) : hend (h :: H) = hend H := by
  cases H with
  | nil => exact absurd rfl hH
  | cons x r => rfl
theorem zbs_add (a b : Nat) : zbs (a + b) = zbs a ++ zbs b := by simp [zbs, List.replicate_append_replicate]
theorem strm_data (h : Int × Int) (H : List (Int × Int)) (D : List UInt8) (p : Int) (c : Nat) (hc : p + c ≤ h.1) : strm p (h :: H) D = D.take c ++ strm (p + c) (h :: H) (D.drop c) := by
  have e : (h.1 - p).toNat = c + (h.1 - (p + c)).toNat := by omega
  have m1 : max p h.1 = h.1 := by omega
  have m2 : max (p + c) h.1 = h.1 := by omega
  simp only [strm, m1, m2]
  rw [e, List.take_add, List.append_assoc, List.drop_drop]
theorem strm_hole (h : Int × Int) (H : List (Int × Int)) (D : List UInt8) (p : Int) (c : Nat) (h1 : h.1 ≤ p) (hc : p + c ≤ h.1 + h.2) : strm p (h :: H) D = zbs c ++ strm (p + c) (h :: H) D := by
  have e1 : (h.1 - p).toNat = 0 := by omega
  have e2 : (h.1 - (p + c)).toNat = 0 := by omega
  have m1 : max p h.1 = p := by omega
  have m2 : max (p + c) h.1 = p + c := by omega
  have e : (h.1 + h.2 - p).toNat = c + (h.1 + h.2 - (p + c)).toNat := by omega
  simp only [strm, m1, m2, e1, e2]
  rw [e, zbs_add]
  simp
theorem strm_next (h : Int × Int) (H : List (Int × Int)) (D : List UInt8) (p : Int) (h1 : h.1 ≤ p) (hp : p = h.1 + h.2) : strm p (h :: H) D = strm p H D := by
  subst hp
  have e1 : (h.1 - (h.1 + h.2)).toNat = 0 := by omega
  have m1 : max (h.1 + h.2) h.1 = h.1 + h.2 := by omega
  simp [strm, e1, m1, zbs]
theorem dlen_data (h : Int × Int) (H : List (Int × Int)) (p : Int) (c : Nat) (hc : p + c ≤ h.1) : dlen p (h :: H) = c + dlen (p + c) (h :: H) := by
  simp only [dlen]
  omega
theorem dlen_hole (h : Int × Int) (H : List (Int × Int)) (p : Int) (c : Nat) (h1 : h.1 ≤ p) : dlen p (h :: H) = dlen (p + c) (h :: H) := by
  simp only [dlen]
  omega
theorem dlen_next (h : Int × Int) (H : List (Int × Int)) (p : Int) (h1 : h.1 ≤ p) (hp : p = h.1 + h.2) : dlen p (h :: H) = dlen p H := by
  subst hp
  have e1 : (h.1 - (h.1 + h.2)).toNat = 0 := by omega
  simp [dlen, e1]
theorem okH_end : ∀ (H : List (Int × Int)) (at_ : Int), okH at_ H → H ≠ [] → at_ ≤ hend H
  | [h], at_, hk, _ => by simp only [okH, hend] at *; omega
  | h :: x :: H, at_, hk, _ => by
    have := okH_end (x :: H) (h.1 + h.2) hk.2.2.2 (by simp)
    have h1 := hk.1
    have h2 := hk.2.1
    rw [hend_cons h (x :: H) (by simp)]
    omega
theorem length_strm : ∀ (H : List (Int × Int)) (p : Int) (D : List UInt8), H ≠ [] → okH (min p ((H.head?).map (·.1) |>.getD 0)) H → (∀ h, H.head? = some h → p ≤ h.1 + h.2) → D.length = dlen p H → ((strm p H D).length : Int) = hend H - p
  | [h], p, D, _, hk, hp, hD => by
    have h1 := hp h rfl
    simp only [okH, List.head?_cons, Option.map_some, Option.getD_some] at hk
    simp only [dlen] at hD
    simp only [strm, hend, List.length_append, List.length_take, length_zbs, List.length_nil]
    omega
  | h :: x :: H, p, D, _, hk, hp, hD => by
    have h1 := hp h rfl
    have hk0 := hk.2.2.2
    have h2 := hk.2.1
    have hx := hk0.1
    have hx2 := hk0.2.1
    have ih := length_strm (x :: H) (h.1 + h.2) (D.drop (h.1 - p).toNat) (by simp) (by
      simp only [List.head?_cons, Option.map_some, Option.getD_some]
      rw [show min (h.1 + h.2) x.1 = h.1 + h.2 by omega]
      exact hk0) (fun y hy => by simp at hy; subst hy; omega) (by rw [List.length_drop, hD]; simp only [dlen]; omega)
    rw [hend_cons h (x :: H) (by simp)]
    rw [show strm p (h :: x :: H) D = D.take (h.1 - p).toNat ++ (zbs (h.1 + h.2 - max p h.1).toNat ++ strm (h.1 + h.2) (x :: H) (D.drop (h.1 - p).toNat)) from rfl]
    rw [List.length_append, List.length_append, List.length_take, length_zbs]
    have hd : dlen p (h :: x :: H) = (h.1 - p).toNat + dlen (h.1 + h.2) (x :: H) := rfl
    omega

/-- Where a reader stands: the first of H is the hole that is next or in which it stands. -/
structure SpOk (p : Int) (H : List (Int × Int)) (D : List UInt8) (h : Int × Int) (T : List (Int × Int)) : Prop where
  e : H = h :: T
  p0 : 0 ≤ p
  h0 : 0 ≤ h.1
  h1 : 0 ≤ h.2
  p1 : p ≤ h.1 + h.2
  p2 : T ≠ [] → p < h.1 + h.2
  h2 : T ≠ [] → 1 ≤ h.2
  ok : okH (h.1 + h.2) T
  dl : D.length = dlen p H
  big : hend H ≤ 1099511627776
section
variable {p : Int} {H T : List (Int × Int)} {D : List UInt8} {h : Int × Int}
theorem SpOk.le_end (k : SpOk p H D h T) : h.1 + h.2 ≤ hend H := by
  rw [k.e]
  by_cases hT : T = []
  · subst hT; exact Int.le_refl _
  · rw [hend_cons h T hT]; exact okH_end T _ k.ok hT
theorem SpOk.len (k : SpOk p H D h T) : ((strm p H D).length : Int) = hend H - p := by
  obtain rfl := k.e
  refine length_strm (h :: T) p D (by simp) ?_ (fun x hx => ?_) k.dl
  · simp only [List.head?_cons, Option.map_some, Option.getD_some]
    exact ⟨by omega, k.h1, k.h2, k.ok⟩
  · simp at hx; subst hx; exact k.p1
theorem SpOk.at_end (k : SpOk p H D h T) (hp : p = hend H) : D = [] := by
  have h1 := k.le_end
  have hT : T = [] := by
    refine Classical.byContradiction fun hT => ?_
    have := k.p2 hT
    omega
  have hd := k.dl
  have e := k.e
  subst hT
  subst e
  have h2 := k.h1
  simp only [dlen] at hd
  simp only [hend] at hp
  exact List.eq_nil_of_length_eq_zero (by omega)
theorem SpOk.data (k : SpOk p H D h T) (c : Nat) (hc : p + c ≤ h.1) (hT : T ≠ [] → p + c < h.1 + h.2) : SpOk (p + c) H (D.drop c) h T ∧ strm p H D = D.take c ++ strm (p + c) H (D.drop c) ∧ c ≤ D.length := by
  obtain rfl := k.e
  have h3 := dlen_data h T p c hc
  have h4 := k.dl
  have h5 := k.h1
  have h6 := k.p0
  refine ⟨⟨rfl, by omega, k.h0, k.h1, by omega, hT, k.h2, k.ok, by rw [List.length_drop]; omega, k.big⟩, strm_data h T D p c hc, by omega⟩
theorem SpOk.hole (k : SpOk p H D h T) (c : Nat) (h1 : h.1 ≤ p) (hc : p + c ≤ h.1 + h.2) (hT : T ≠ [] → p + c < h.1 + h.2) : SpOk (p + c) H D h T ∧ strm p H D = zbs c ++ strm (p + c) H D := by
  obtain rfl := k.e
  have h3 := dlen_hole h T p c h1
  have h4 := k.dl
  have h6 := k.p0
  exact ⟨⟨rfl, by omega, k.h0, k.h1, hc, hT, k.h2, k.ok, by omega, k.big⟩, strm_hole h T D p c h1 hc⟩
theorem SpOk.next (k : SpOk p H D h T) (c : Nat) (h1 : h.1 ≤ p) (hc : p + c = h.1 + h.2) (hT : T ≠ []) : ∃ x T', SpOk (p + c) T D x T' ∧ strm p H D = zbs c ++ strm (p + c) T D ∧ hend T = hend H := by
  obtain rfl := k.e
  have h6 := k.p0
  have h7 := k.h1
  cases T with
  | nil => exact absurd rfl hT
  | cons x T' =>
    have hk := k.ok
    have hx1 := hk.1
    have hx2 := hk.2.1
    refine ⟨x, T', ⟨rfl, by omega, by omega, hx2, by omega, fun h => by have := hk.2.2.1 h; omega, hk.2.2.1, hk.2.2.2, ?_, ?_⟩, ?_, (hend_cons h (x :: T') (by simp)).symm⟩
    · rw [k.dl, dlen_hole h (x :: T') p c h1, dlen_next h (x :: T') (p + c) (by omega) hc]
    · have := k.big; rw [hend_cons h (x :: T') (by simp)] at this; exact this
    · rw [strm_hole h (x :: T') D p c h1 (by omega), strm_next h (x :: T') D (p + c) (by omega) hc]
end

theorem dlen_le_end : ∀ (H : List (Int × Int)) (p : Int), okH p H → 0 ≤ p → H ≠ [] → (dlen p H : Int) ≤ hend H
  | [h], p, hk, hp, _ => by
    have h1 := hk.1
    have h2 := hk.2.1
    simp only [dlen, hend]
    omega
  | h :: x :: H, p, hk, hp, _ => by
    have h1 := hk.1
    have h2 := hk.2.1
    have ih := dlen_more (x :: H) (h.1 + h.2) hk.2.2.2 (by omega) (by simp)
    rw [hend_cons h (x :: H) (by simp)]
    show (((h.1 - p).toNat + dlen (h.1 + h.2) (x :: H) : Nat) : Int) ≤ _
    omega
where dlen_more : ∀ (H : List (Int × Int)) (p : Int), okH p H → 0 ≤ p → H ≠ [] → p + (dlen p H : Int) ≤ hend H
  | [h], p, hk, hp, _ => by
    have h1 := hk.1
    have h2 := hk.2.1
    simp only [dlen, hend]
    omega
  | h :: x :: H, p, hk, hp, _ => by
    have h1 := hk.1
    have h2 := hk.2.1
    have ih := dlen_more (x :: H) (h.1 + h.2) hk.2.2.2 (by omega) (by simp)
    rw [hend_cons h (x :: H) (by simp)]
    show p + (((h.1 - p).toNat + dlen (h.1 + h.2) (x :: H) : Nat) : Int) ≤ _
    omega
theorem dlen_le {H T : List (Int × Int)} {D : List UInt8} {h : Int × Int} (k : SpOk 0 H D h T) : (D.length : Int) ≤ hend H := by
  have h0 := k.h0
  have h1 := k.h1
  have e := k.e
  rw [k.dl]
  subst e
  exact dlen_le_end _ 0 ⟨h0, h1, k.h2, k.ok⟩ (Int.le_refl _) (by simp)
theorem part_of {S X Y : List UInt8} {j c : Nat} (h : S.drop j = X ++ Y) (hX : X.length = c) : S.drop (j + c) = Y ∧ S.take (j + c) = S.take j ++ X := by
  subst hX
  constructor
  · rw [← List.drop_drop, h, List.drop_left]
  · rw [List.take_add, h, List.take_left]
theorem splice_at {S X : List UInt8} {j c n : Nat} (hj : j ≤ S.length) (hX : X.length = c) (hc : c ≤ n) : splice (S.take j ++ zbs n) j X = S.take j ++ X ++ zbs (n - c) := by
  have hl : (S.take j).length = j := by rw [List.length_take]; omega
  unfold splice
  rw [List.take_append_of_le_length (by omega), List.take_of_length_le (by omega), hX]
  rw [show zbs n = zbs c ++ zbs (n - c) by rw [← zbs_add]; congr 1; omega]
  have e : (S.take j ++ (zbs c ++ zbs (n - c))).drop (j + c) = zbs (n - c) := by
    rw [← List.drop_drop, show (S.take j ++ (zbs c ++ zbs (n - c))).drop j = zbs c ++ zbs (n - c) by rw [List.drop_append_of_le_length (by omega), List.drop_of_length_le (by omega), List.nil_append], List.drop_append_of_le_length (by rw [length_zbs]; omega), List.drop_of_length_le (by rw [length_zbs]; omega), List.nil_append]
  rw [e]
  simp
/-- What a fragment of c bytes leaves to be read: D2, of the same hole or the next one. -/
structure Frag (r : Int) (c : Nat) (H T : List (Int × Int)) (h : Int × Int) (D2 : List UInt8) (Z : List UInt8) : Prop where
  stay : (r + c < h.1 + h.2 ∨ T = []) → SpOk (r + c) H D2 h T ∧ strm (r + c) H D2 = Z
  next : r + c = h.1 + h.2 → T ≠ [] → h.1 ≤ r + c → ∃ x T', SpOk (r + c) T D2 x T' ∧ strm (r + c) T D2 = Z ∧ hend T = hend H
theorem frag_data {r : Int} {c : Nat} {H T : List (Int × Int)} {h : Int × Int} {D S : List UInt8} {j : Nat} (k : SpOk r H D h T) (hs : strm r H D = S.drop j) (hc : r + c ≤ h.1) :
    Frag r c H T h (D.drop c) (S.drop (j + c)) ∧ S.take (j + c) = S.take j ++ D.take c ∧ c ≤ D.length := by
  have h2 := k.h2
  have h1 := k.h1
  obtain ⟨a1, a2, a3⟩ := k.data c hc (fun hT => by have := h2 hT; omega)
  rw [hs] at a2
  have hl : (D.take c).length = c := by rw [List.length_take]; omega
  obtain ⟨b1, b2⟩ := part_of a2 hl
  exact ⟨⟨fun _ => ⟨a1, b1.symm⟩, fun he hT _ => by have := h2 hT; omega⟩, b2, a3⟩
theorem frag_hole {r : Int} {c : Nat} {H T : List (Int × Int)} {h : Int × Int} {D S : List UInt8} {j : Nat} (k : SpOk r H D h T) (hs : strm r H D = S.drop j) (h0 : h.1 ≤ r) (hc : r + c ≤ h.1 + h.2) :
    Frag r c H T h D (S.drop (j + c)) ∧ S.take (j + c) = S.take j ++ zbs c := by
  have hl : (zbs c).length = c := length_zbs c
  have e1 : strm r H D = zbs c ++ strm (r + c) H D := by
    obtain rfl := k.e
    exact strm_hole h T D r c h0 hc
  rw [hs] at e1
  obtain ⟨b1, b2⟩ := part_of e1 hl
  refine ⟨⟨fun hor => ?_, fun he hT _ => ?_⟩, b2⟩
  · obtain ⟨a1, _⟩ := k.hole c h0 hc (fun hT => by
      rcases hor with h | h
      · exact h
      · exact absurd h hT)
    exact ⟨a1, b1.symm⟩
  · obtain ⟨x, T', a1, a2, a3⟩ := k.next c h0 he hT
    rw [hs] at a2
    exact ⟨x, T', a1, (part_of a2 hl).1.symm, a3⟩
end Go.Proofs.YtiahifohkhdmdaaDoor
