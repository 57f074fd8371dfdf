/- bytes.Trim at the set of a space and a byte 0: trimLeftASCII, Trim. -/
import Derived.Test.YtagjbndcbcepcaaDoorTrC
namespace Go.Proofs.YtagjbndcbcepcaaDoor
open Go.RowKit Go.PlainAid
set_option linter.unusedVariables false

section
variable {P : Program}
theorem wpList_store_new' {ops : Array Oper} {rest : List Oper} {op : Oper} {a : Act} {w : World} {Q : Exit → Act → World → Prop} (hgd : op.guard = none) (t : TypeId) (x y : Operand) (ho : op.op = .store t x y)
    (C C' : Array Value) (g : Nat) (hg : g = w.heap.size) (hx : a.eval x = .pointer (some ⟨g, 0, none⟩)) (hy : a.eval y = .agg C') (hi : (P.info? t).map (·.size) = some C'.size) (hs : C.size = C'.size) (h1 : C'.all (·.oneCell') = true)
    (h : wpList P ops Q rest (a.put op.dst undef) (w.alloc (.cells C' t))) : wpList P ops Q (op :: rest) a (w.alloc (.cells C t)) := by
  subst hg
  exact wpList_store_new hgd t x y ho C C' hx hy hi hs h1 h
end
theorem RB.tail {w : World} {B b off : Nat} {x : UInt8} {l : List UInt8} (h : RB w B (some ⟨b, off, none⟩) (x :: l)) : RB w B (some ⟨b, off + 1, none⟩) l := fun hn => by
  obtain ⟨b', off', e, hb, hc⟩ := h (by simp)
  obtain ⟨rfl, rfl, _⟩ := Addr.mk.inj (Option.some.inj e)
  refine ⟨b, off + 1, rfl, hb, fun i hi => ?_⟩
  have := hc (i + 1) (by simp; omega)
  rw [show off + 1 + i = off + (i + 1) by omega, this]
  simp [byt, List.getD]
def LeftRel (w : World) (B : Nat) (bs : List UInt8) (A : Option Addr) (m c : Nat) (l : List UInt8) : Prop := l.length = m ∧ m ≤ c ∧ RB w B A l ∧ (A = none → c = 0) ∧ ∃ a, bs = a ++ l ∧ allEnd a
theorem LeftRel.next {w : World} {B : Nat} {bs : List UInt8} {b off m c : Nat} {x : UInt8} {l : List UInt8} (h : LeftRel w B bs (some ⟨b, off, none⟩) m c (x :: l)) (hx : isEnd x) : LeftRel w B bs (if c = 1 then some ⟨b, off, none⟩ else some ⟨b, off + 1, none⟩) (m - 1) (c - 1) l := by
  obtain ⟨h1, h2, h3, h4, a, h5, h6⟩ := h
  rw [List.length_cons] at h1
  refine ⟨by omega, by omega, ?_, (fun h => by split at h <;> cases h), a ++ [x], (by rw [h5]; simp), fun y hy => ?_⟩
  · split
    · have hl : l = [] := List.eq_nil_of_length_eq_zero (by omega)
      rw [hl]
      intro h
      simp at h
    · exact h3.tail
  rcases List.mem_append.1 hy with h | h
  · exact h6 y h
  · rw [List.mem_singleton.1 h]; exact hx
/-- What is left of the left side. -/
def LeftPost (w : World) (B : Nat) (bs : List UInt8) (e : Ending) (w' : World) : Prop := (∃ A m c l, LeftRel w B bs A m c l ∧ (∀ x, l.head? = some x → ¬ isEnd x) ∧ e = .returned (.slice A m c)) ∧ w = w'
set_option maxHeartbeats 800000 in
set_option maxRecDepth 20000 in
theorem trimLeftA (A : Option Addr) (n c B S : Nat) (bs : List UInt8) (w : World) (hn : bs.length = n) (hr : RB w B A bs) (hS : SetAt w S) (hnc : n ≤ c) (hA : A = none → c = 0) (hm : n ≤ 70368744177664) :
    Calls Tryd.prog 45 #[.slice A n c, .pointer (some ⟨S, 0, none⟩)] w (LeftPost w B bs) := by
  have H0 : Hid (LeftRel w B bs A n c bs) := Lib.hid ⟨hn, hnc, hr, hA, [], rfl, fun x hx => by simp at hx⟩
  have HS := Lib.hid hS
  clear hn hr hS hA
  go_enter Tryd.func45, Tryd.ntmps45
  go_wp2
  go_loop [0] (fun v => ∃ (A : Option Addr) (m c : Nat) (l : List UInt8), v = .slice A m c ∧ m ≤ 70368744177664 ∧ Hid (LeftRel w B bs A m c l)) (fun v => (match v with | .slice _ m _ => m | _ => 0))
  case atStart => exact ⟨A, n, c, bs, rfl, hm, H0⟩
  case round =>
    obtain ⟨A, m, c, l, rfl, hm, hL⟩ := hrel
    by_cases h0 : 0 < m
    · obtain ⟨x, r, rfl⟩ : ∃ x r, l = x :: r := by
        cases l with
        | nil => have := hL.out.1; simp at this; omega
        | cons x r => exact ⟨x, r, rfl⟩
      obtain ⟨b, off, rfl, _, hc⟩ := hL.out.2.2.1 (by simp)
      have hcell := hc 0 (by simp)
      have hx : byt (x :: r) 0 = (x.toNat : Int) := by simp [byt, List.getD]
      rw [hx, Nat.add_zero] at hcell
      have hmc := hL.out.2.1
      have w1 : (1 : Int) ≤ (m : Int) := by omega
      have w2 : (m : Int) ≤ (c : Int) := by omega
      have w3 : (0 : Int) < (m : Int) := by omega
      clear hc hx
      obtain ⟨d, hd⟩ : ∃ d, ([32, 0] : List UInt8).contains x = d := ⟨_, rfl⟩
      have HD := Lib.hid hd
      clear hd
      cases d with
      | true =>
        have HN := Lib.hid (hL.out.next ((contains_end x).1 HD.out))
        go_wp2_with (go_at_call 60; refine (setHasI S _ true x _ HS.out rfl HD.out).mono ?_; rintro e w' ⟨rfl, rfl⟩)
        go_round
        case rel => exact ⟨_, _, _, r, rfl, by omega, HN⟩
        case measure => simp; omega
      | false =>
        have HX : Hid (∀ y, (x :: r).head? = some y → ¬ isEnd y) := Lib.hid (fun y hy he => by
          have : x = y := by simpa using hy
          rw [← this] at he
          have := (contains_end x).2 he
          rw [HD.out] at this
          cases this)
        have hm1 : ¬ (m : Int) = 0 := by omega
        go_wp2_with (go_at_call 60; refine (setHasI S _ false x _ HS.out rfl HD.out).mono ?_; rintro e w' ⟨rfl, rfl⟩)
        go_ret
        exact ⟨⟨_, _, _, x :: r, hL.out, HX.out, rfl⟩, rfl⟩
    · obtain rfl : m = 0 := by omega
      have HE : Hid (l = []) := Lib.hid (List.eq_nil_of_length_eq_zero hL.out.1)
      go_wp2
      go_ret
      refine ⟨⟨none, 0, 0, [], ?_, fun y hy => by simp at hy, rfl⟩, rfl⟩
      obtain ⟨_, _, _, _, a, h5, h6⟩ := hL.out
      exact ⟨rfl, Nat.le_refl _, fun h => by simp at h, fun _ => rfl, a, by rw [h5, HE.out], h6⟩

/-- The trimmed slice. -/
def TrimPost (bs : List UInt8) (w : World) (B : Nat) (e : Ending) (w' : World) : Prop := (∃ A m c t, e = .returned (.slice A m c) ∧ TrimTo bs t ∧ t.length = m ∧ m ≤ c ∧ RB w' B A t ∧ (A = none → c = 0)) ∧ Below w.heap.size w w'
theorem trim_join {bs l : List UInt8} {m : Nat} {a : List UInt8} (h1 : allEnd (bs.drop m)) (h2 : ∀ x, (bs.take m).getLast? = some x → ¬ isEnd x) (h3 : bs.take m = a ++ l) (h4 : allEnd a) (h5 : ∀ x, l.head? = some x → ¬ isEnd x) : TrimTo bs l := by
  refine ⟨a, bs.drop m, by rw [← h3, List.take_append_drop], h4, h1, h5, fun x hx => h2 x ?_⟩
  rw [h3, List.getLast?_append, hx]
  rfl
set_option maxHeartbeats 1600000 in
set_option maxRecDepth 20000 in
theorem trim_any (A : Option Addr) (n c B : Nat) (bs : List UInt8) (w : World) (hn : bs.length = n) (hr : RB w B A bs) (hB : B ≤ w.heap.size) (hnc : n ≤ c) (hA : A = none → c = 0) (hm : n ≤ 70368744177664) :
    Calls Tryd.prog 36 #[.slice A n c, .string ⟨#[32, 0]⟩] w (TrimPost bs w B) := by
  by_cases h0 : n = 0
  · subst h0
    have HE : Hid (bs = []) := Lib.hid (List.eq_nil_of_length_eq_zero hn)
    clear hn hr hA
    go_enter Tryd.func36, Tryd.ntmps36
    go_wp2
    go_ret
    refine ⟨⟨none, 0, 0, [], rfl, ?_, rfl, Nat.le_refl _, fun h => by simp at h, fun _ => rfl⟩, Below.refl _ _⟩
    rw [HE.out]
    exact ⟨[], [], rfl, fun x hx => by simp at hx, fun x hx => by simp at hx, fun x hx => by simp at hx, fun x hx => by simp at hx⟩
  · have hn0 : ¬ (n : Int) = 0 := by omega
    have HN := Lib.hid hn
    have HR := Lib.hid hr
    have HA := Lib.hid hA
    obtain ⟨Z, hZ⟩ : ∃ Z, (⟨#[32, 0]⟩ : ByteArray) = Z := ⟨_, rfl⟩
    have hZs : Z.size = 2 := by rw [← hZ]; rfl
    obtain ⟨e1, e2⟩ : ¬ Z.toList = [] ∧ Z.toList.isEmpty = false := by rw [← hZ, Lib.toList_data]; exact ⟨by simp, by simp⟩
    have HM := fun w => Lib.hid (makeSet w)
    rw [hZ] at HM ⊢
    clear hn hr hA hZ
    go_enter Tryd.func36, Tryd.ntmps36
    go_wp2_with fail
    refine (HM _).out.mono ?_
    rintro e w1 ⟨rfl, rfl⟩
    have HCS := Lib.hid setSize
    have HC1 := Lib.hid (Lib.setCells_one [32, 0])
    have HSZ : Hid ((Array.replicate 256 (Value.bool false)).size = (Lib.setCells [32, 0]).size) := Lib.hid (by rw [Lib.setCells_size, Array.size_replicate])
    have hz := (zero_of_info setInfo).1
    have HSn := fun (w : World) => Lib.hid (setAt_new w 58)
    obtain ⟨C, hC⟩ : ∃ C, Lib.setCells [32, 0] = C := ⟨_, rfl⟩
    rw [hC] at HCS HC1 HSn HSZ ⊢
    clear hC
    go_wp2_with (first
      | (refine wpList_store_new' (op := ⟨none, _, _, _, _, _⟩) rfl 58 (.tmp 5) (.tmp 31) rfl (Array.replicate 256 (Value.bool false)) C (w.heap.size + 1) (by simp) rfl rfl HCS.out HSZ.out HC1.out ?_)
      | fail)
    have HS : Hid (SetAt ((w.alloc (.cells C 58)).alloc (.cells C 58)) (w.heap.size + 1)) := Lib.hid (by
      have h := (HSn (w.alloc (.cells C 58))).out
      rwa [World.size_alloc] at h)
    have HB2 : Hid (Below w.heap.size w ((w.alloc (.cells C 58)).alloc (.cells C 58))) := Lib.hid (by
      have a1 := (Below.refl w.heap.size w).alloc (Nat.le_refl _) (.cells C 58)
      exact a1.alloc a1.size _)
    have HR2 : Hid (RB ((w.alloc (.cells C 58)).alloc (.cells C 58)) B A bs) := Lib.hid ((HR.out.alloc hB _).alloc (by simp; omega) _)
    obtain ⟨w2, hw2⟩ : ∃ w2, w2 = (w.alloc (.cells C 58)).alloc (.cells C 58) := ⟨_, rfl⟩
    rw [← hw2] at HS HB2 HR2 ⊢
    clear hw2 HSn HCS HC1 HSZ hz HM
    refine (trimRightA A n c B _ bs _ HN.out HR2.out HS.out hnc hm).mono ?_
    rintro e w3 ⟨⟨m, hm2, h1, h2, rfl⟩, rfl⟩
    have H1 := Lib.hid h1
    have H2 := Lib.hid h2
    have HT : Hid ((bs.take m).length = m) := Lib.hid (by rw [List.length_take, HN.out]; omega)
    have HRT := Lib.hid (HR2.out.take m)
    clear h1 h2
    go_wp2_with fail
    refine (trimLeftA A m c B _ (bs.take m) _ HT.out HRT.out HS.out (by omega) HA.out (by omega)).mono ?_
    rintro e w4 ⟨⟨A', m', c', l, hL, hx, rfl⟩, rfl⟩
    have HL := Lib.hid hL
    have HX := Lib.hid hx
    clear hL hx
    go_wp2
    go_ret
    obtain ⟨q1, q2, q3, q4, a, q5, q6⟩ := HL.out
    exact ⟨⟨A', m', c', l, rfl, trim_join H1.out H2.out q5 q6 HX.out, q1, q2, q3, q4⟩, HB2.out⟩
end Go.Proofs.YtagjbndcbcepcaaDoor
