/- Plain words on the pieces of a sparse file and the holes between them. No program. -/
import Derived.Test.YtiahifohkhdmdaaDoorSpPlain
import Derived.Test.YtiahifohkhdmdaaDoorVe
namespace Go.Proofs.YtiahifohkhdmdaaDoor
open Go.RowKit
set_option linter.unusedVariables false

/-- The holes from a on. -/
def hol (size : Int) : List (Int × Int) → Int → List (Int × Int)
  | [], a => [(a, size - a)]
  | p :: ps, a => (if a < p.1 then [(a, p.1 - a)] else []) ++ hol size ps (p.1 + p.2)
/-- The bytes from a on. -/
def expd (size : Int) : List (Int × Int) → Int → List UInt8 → List UInt8
  | [], a, _ => zbs (size - a).toNat
  | p :: ps, a, D => zbs (p.1 - a).toNat ++ (D.take p.2.toNat ++ expd size ps (p.1 + p.2) (D.drop p.2.toNat))
/-- Pieces from a on are in order, none is empty. -/
def okQ (size : Int) : Int → List (Int × Int) → Prop
  | a, [] => a ≤ size
  | a, p :: ps => a ≤ p.1 ∧ 1 ≤ p.2 ∧ okQ size (p.1 + p.2) ps
/-- The lengths of pieces together. -/
def lenQ : List (Int × Int) → Nat
  | [] => 0
  | p :: ps => p.2.toNat + lenQ ps

theorem hol_ne (size : Int) : ∀ (ps : List (Int × Int)) (a : Int), hol size ps a ≠ []
  | [], a => by simp [hol]
  | p :: ps, a => by
    have := hol_ne size ps (p.1 + p.2)
    simp only [hol]
    intro h
    exact this (List.append_eq_nil_iff.1 h).2
theorem okH_mono : ∀ {H : List (Int × Int)} {a b : Int}, okH b H → a ≤ b → okH a H
  | [], _, _, _, _ => trivial
  | h :: H, a, b, hk, hab => ⟨by have := hk.1; omega, hk.2⟩
theorem okH_hol (size : Int) : ∀ (ps : List (Int × Int)) (a : Int), okQ size a ps → okH a (hol size ps a)
  | [], a, h => by
    have : a ≤ size := h
    exact ⟨by simp, by simp; omega, fun h => absurd rfl h, trivial⟩
  | p :: ps, a, h => by
    obtain ⟨h1, h2, h3⟩ := h
    have ih := okH_hol size ps (p.1 + p.2) h3
    by_cases hlt : a < p.1
    · have e : hol size (p :: ps) a = (a, p.1 - a) :: hol size ps (p.1 + p.2) := by simp [hol, hlt]
      rw [e]
      refine ⟨by simp, by simp; omega, fun _ => by simp; omega, ?_⟩
      exact okH_mono ih (by simp; omega)
    · have e : hol size (p :: ps) a = hol size ps (p.1 + p.2) := by simp [hol, hlt]
      rw [e]
      exact okH_mono ih (by omega)
theorem hend_hol (size : Int) : ∀ (ps : List (Int × Int)) (a : Int), hend (hol size ps a) = size
  | [], a => by simp [hol, hend]; omega
  | p :: ps, a => by
    have ih := hend_hol size ps (p.1 + p.2)
    by_cases hlt : a < p.1
    · have e : hol size (p :: ps) a = (a, p.1 - a) :: hol size ps (p.1 + p.2) := by simp [hol, hlt]
      rw [e, hend_cons _ _ (hol_ne _ _ _), ih]
    · have e : hol size (p :: ps) a = hol size ps (p.1 + p.2) := by simp [hol, hlt]
      rw [e, ih]
theorem hol_len (size : Int) : ∀ (ps : List (Int × Int)) (a : Int), (hol size ps a).length ≤ ps.length + 1
  | [], a => by simp [hol]
  | p :: ps, a => by
    have ih := hol_len size ps (p.1 + p.2)
    by_cases hlt : a < p.1 <;> simp [hol, hlt] <;> omega
theorem dlen_skip {H : List (Int × Int)} {p a : Int} (hH : H ≠ []) (hk : okH a H) (hp : p ≤ a) : dlen p H = (a - p).toNat + dlen a H := by
  cases H with
  | nil => exact absurd rfl hH
  | cons h H =>
    have := hk.1
    simp only [dlen]
    omega
theorem strm_skip {H : List (Int × Int)} {p a : Int} (D : List UInt8) (hH : H ≠ []) (hk : okH a H) (hp : p ≤ a) : strm p H D = D.take (a - p).toNat ++ strm a H (D.drop (a - p).toNat) := by
  cases H with
  | nil => exact absurd rfl hH
  | cons h H =>
    have h1 := hk.1
    have := strm_data h H D p (a - p).toNat (by omega)
    rwa [show p + ((a - p).toNat : Int) = a by omega] at this
theorem dlen_hol (size : Int) : ∀ (ps : List (Int × Int)) (a : Int), okQ size a ps → dlen a (hol size ps a) = lenQ ps
  | [], a, h => by simp [hol, dlen, lenQ]
  | p :: ps, a, h => by
    obtain ⟨h1, h2, h3⟩ := h
    have ih := dlen_hol size ps (p.1 + p.2) h3
    have hk := okH_hol size ps (p.1 + p.2) h3
    have hs := dlen_skip (p := p.1) (hol_ne size ps (p.1 + p.2)) hk (by omega)
    rw [ih, show (p.1 + p.2 - p.1).toNat = p.2.toNat by omega] at hs
    by_cases hlt : a < p.1
    · have e : hol size (p :: ps) a = (a, p.1 - a) :: hol size ps (p.1 + p.2) := by simp [hol, hlt]
      rw [e]
      show (a - a).toNat + dlen (a + (p.1 - a)) (hol size ps (p.1 + p.2)) = _
      rw [show a + (p.1 - a) = p.1 by omega, hs]
      simp [lenQ]
    · have e : hol size (p :: ps) a = hol size ps (p.1 + p.2) := by simp [hol, hlt]
      rw [e, show a = p.1 by omega, hs]
      rfl
theorem strm_hol (size : Int) : ∀ (ps : List (Int × Int)) (a : Int) (D : List UInt8), okQ size a ps → strm a (hol size ps a) D = expd size ps a D
  | [], a, D, h => by
    have : a ≤ size := h
    simp [hol, strm, expd]
    congr 1
    omega
  | p :: ps, a, D, h => by
    obtain ⟨h1, h2, h3⟩ := h
    have ih := strm_hol size ps (p.1 + p.2) (D.drop p.2.toNat) h3
    have hk := okH_hol size ps (p.1 + p.2) h3
    have hs := strm_skip (p := p.1) D (hol_ne size ps (p.1 + p.2)) hk (by omega)
    rw [show (p.1 + p.2 - p.1).toNat = p.2.toNat by omega, ih] at hs
    by_cases hlt : a < p.1
    · have e : hol size (p :: ps) a = (a, p.1 - a) :: hol size ps (p.1 + p.2) := by simp [hol, hlt]
      rw [e]
      show D.take (a - a).toNat ++ (zbs (a + (p.1 - a) - max a a).toNat ++ strm (a + (p.1 - a)) (hol size ps (p.1 + p.2)) (D.drop (a - a).toNat)) = _
      rw [show a + (p.1 - a) = p.1 by omega, show (a - a).toNat = 0 by omega, show max a a = a by omega, List.take_zero, List.drop_zero, List.nil_append, hs]
      rfl
    · have e : hol size (p :: ps) a = hol size ps (p.1 + p.2) := by simp [hol, hlt]
      have ea : a = p.1 := by omega
      rw [e, ea, hs]
      show _ = zbs (p.1 - p.1).toNat ++ _
      rw [show (p.1 - p.1).toNat = 0 by omega]
      rfl
theorem SpOk.start {H : List (Int × Int)} {D : List UInt8} (hH : H ≠ []) (hk : okH 0 H) (hD : D.length = dlen 0 H) (hb : hend H ≤ 1099511627776) : ∃ h T, SpOk 0 H D h T := by
  cases H with
  | nil => exact absurd rfl hH
  | cons h T =>
    obtain ⟨h1, h2, h3, h4⟩ := hk
    exact ⟨h, T, ⟨rfl, Int.le_refl _, h1, h2, by omega, fun hT => by have := h3 hT; omega, h3, h4, hD, hb⟩⟩

/-- The holes ahead of the first k pieces. -/
def hpre (ps : List (Int × Int)) : Nat → List (Int × Int)
  | 0 => []
  | k + 1 => hpre ps k ++ (if ve ps k < po ps k then [(ve ps k, po ps k - ve ps k)] else [])
theorem drop_piece (ps : List (Int × Int)) (k : Nat) (h : k < ps.length) : ps.drop k = (po ps k, pl ps k) :: ps.drop (k + 1) := by
  rw [List.drop_eq_getElem_cons h]
  congr 1
  simp [po, pl, List.getD, h]
theorem hpre_hol (size : Int) (ps : List (Int × Int)) : ∀ k, k ≤ ps.length → hpre ps k ++ hol size (ps.drop k) (ve ps k) = hol size ps 0
  | 0, _ => rfl
  | k + 1, hk => by
    have ih := hpre_hol size ps k (by omega)
    rw [drop_piece ps k (by omega)] at ih
    rw [← ih]
    show hpre ps k ++ _ ++ hol size (ps.drop (k + 1)) (po ps k + pl ps k) = hpre ps k ++ (_ ++ hol size (ps.drop (k + 1)) (po ps k + pl ps k))
    rw [List.append_assoc]
theorem hpre_end (size : Int) (ps : List (Int × Int)) : hpre ps ps.length ++ [(ve ps ps.length, size - ve ps ps.length)] = hol size ps 0 := by
  have := hpre_hol size ps ps.length (Nat.le_refl _)
  rwa [List.drop_length] at this
theorem hpre_len (ps : List (Int × Int)) : ∀ k, (hpre ps k).length ≤ k
  | 0 => Nat.le_refl _
  | k + 1 => by
    have ih := hpre_len ps k
    simp only [hpre, List.length_append]
    split <;> simp <;> omega
/-- The bytes that the first k pieces have laid. -/
def xpre (ps : List (Int × Int)) (D : List UInt8) : Nat → List UInt8
  | 0 => []
  | k + 1 => xpre ps D k ++ (zbs (po ps k - ve ps k).toNat ++ (D.drop (lenQ (ps.take k))).take (pl ps k).toNat)
theorem lenQ_take (ps : List (Int × Int)) (k : Nat) (h : k < ps.length) : lenQ (ps.take (k + 1)) = lenQ (ps.take k) + (pl ps k).toNat := by
  rw [take_piece ps k h]
  generalize ps.take k = l
  induction l with
  | nil => simp [lenQ]
  | cons x r ih => simp only [List.cons_append, lenQ, ih]; omega
theorem lenQ_app : ∀ (a b : List (Int × Int)), lenQ (a ++ b) = lenQ a + lenQ b
  | [], b => by simp [lenQ]
  | x :: a, b => by simp only [List.cons_append, lenQ, lenQ_app a b]; omega
theorem xpre_expd (size : Int) (ps : List (Int × Int)) (D : List UInt8) : ∀ k, k ≤ ps.length → xpre ps D k ++ expd size (ps.drop k) (ve ps k) (D.drop (lenQ (ps.take k))) = expd size ps 0 D
  | 0, _ => by simp [xpre, lenQ, ve]
  | k + 1, hk => by
    have ih := xpre_expd size ps D k (by omega)
    rw [drop_piece ps k (by omega)] at ih
    have e1 : D.drop (lenQ (ps.take (k + 1))) = (D.drop (lenQ (ps.take k))).drop (pl ps k).toNat := by rw [lenQ_take ps k (by omega), List.drop_drop]
    rw [← ih, e1]
    show xpre ps D k ++ _ ++ expd size (ps.drop (k + 1)) (po ps k + pl ps k) _ = xpre ps D k ++ (_ ++ (_ ++ expd size (ps.drop (k + 1)) (po ps k + pl ps k) _))
    simp only [List.append_assoc]
theorem xpre_end (size : Int) (ps : List (Int × Int)) (D : List UInt8) : xpre ps D ps.length ++ zbs (size - ve ps ps.length).toNat = expd size ps 0 D := by
  have := xpre_expd size ps D ps.length (Nat.le_refl _)
  rwa [List.drop_length] at this
theorem okQ_of (size : Int) (ps : List (Int × Int)) (h : ∀ j, j < ps.length → ve ps j ≤ po ps j ∧ 1 ≤ pl ps j) (he : ve ps ps.length ≤ size) : ∀ m k, k + m = ps.length → okQ size (ve ps k) (ps.drop k)
  | 0, k, hk => by
    obtain rfl : k = ps.length := by omega
    rw [List.drop_length]
    exact he
  | m + 1, k, hk => by
    rw [drop_piece ps k (by omega)]
    exact ⟨(h k (by omega)).1, (h k (by omega)).2, okQ_of size ps h he m (k + 1) (by omega)⟩
theorem length_xpre (ps : List (Int × Int)) (D : List UInt8) (h : ∀ j, j < ps.length → ve ps j ≤ po ps j ∧ 1 ≤ pl ps j) (hD : lenQ ps ≤ D.length) : ∀ k, k ≤ ps.length → ((xpre ps D k).length : Int) = ve ps k
  | 0, _ => rfl
  | k + 1, hk => by
    have ih := length_xpre ps D h hD k (by omega)
    have h1 := h k (by omega)
    have h2 := lenQ_take ps k (by omega)
    have h3 : lenQ (ps.take (k + 1)) ≤ lenQ ps := by
      have := lenQ_app (ps.take (k + 1)) (ps.drop (k + 1))
      rw [List.take_append_drop] at this
      omega
    simp only [xpre, List.length_append, length_zbs, List.length_take, List.length_drop]
    show _ = po ps k + pl ps k
    omega
end Go.Proofs.YtiahifohkhdmdaaDoor
