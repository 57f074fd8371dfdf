/- laws.FnAllowed: its walk. -/
import Derived.Test.YtepeehjajhehfaaGreatDoorMB3
import Derived.Test.YtepeehjajhehfaaGreatDoorMB5
import Derived.Test.YtepeehjajhehfaaGreatDoorMB6
import Derived.Test.YtepeehjajhehfaaGreatDoorMB4
import Derived.Test.YtepeehjajhehfaaGreatDoorSm
import Derived.Deep.DeepCutAuto
import Derived.Deep.RegionHeld3
namespace Go.Proofs.YtepeehjajhehfaaGreatDoor
open Go.RowKit Go.PlainAid
set_option linter.unusedVariables false

/-- spec.Can at a format, whatever the header is. -/
def CanAt {f : Int} (K : CanKit f) : Prop := ∀ (h : Hd) (rs : List (ByteArray × ByteArray)) (w : World), h.Recs w.heap.size rs w → h.Ok → h.name.size ≤ 2147483647 → Calls Tryz.prog 7 #[h.val, .int .i64 f] w (CanP K h rs w)
/-- The header with no format; with the records of plain. -/
def Hd.zf (h : Hd) : Hd := { h with fm := 0 }
def Hd.wrx (h : Hd) (A : Option Addr) (c : Nat) : Hd := { h with rA := A, rc := c, fm := 0 }
def TruP (w : World) (e : Ending) (w' : World) : Prop := e = .returned (.bool true) ∧ Below w.heap.size w w'
theorem Hd.Ok.zf {h : Hd} (k : h.Ok) : h.zf.Ok := ⟨k.ty, k.size, k.mode, k.uid, k.gid, k.ms, k.mn, k.as_, k.an, k.cs, k.cn, k.maj, k.min, by show (-9223372036854775808 : Int) ≤ 0 ∧ (0 : Int) ≤ 9223372036854775807; omega, k.name, k.link, k.un, k.gn⟩
theorem Hd.Ok.wrx {h : Hd} (k : h.Ok) (A : Option Addr) (c : Nat) : (h.wrx A c).Ok := ⟨k.ty, k.size, k.mode, k.uid, k.gid, k.ms, k.mn, k.as_, k.an, k.cs, k.cn, k.maj, k.min, by show (-9223372036854775808 : Int) ≤ 0 ∧ (0 : Int) ≤ 9223372036854775807; omega, k.name, k.link, k.un, k.gn⟩
/-- What stands in memory while the law looks at the header. -/
structure FaS (h : Hd) (x : Hd) (H X V : Nat) (vs : List Value) (rs : List (ByteArray × ByteArray)) (w0 w : World) : Prop where
  hb : Blk w H 26 h.zf.icells
  bx : Blk w X 32 x.cells
  vb : Blk w V 40 vs
  rx : RC w X x.rA (recsV rs)
  bel : Below w0.heap.size w0 w
  eq : w0.heap.size = H
  l1 : H < X
  l2 : X < V
section
variable {h x : Hd} {H X V : Nat} {vs : List Value} {rs : List (ByteArray × ByteArray)} {w0 w w' : World}
theorem FaS.below (s : FaS h x H X V vs rs w0 w) (hb : Below w.heap.size w w') : FaS h x H X V vs rs w0 w' :=
  ⟨s.hb.below hb s.hb.lt, s.bx.below hb s.bx.lt, s.vb.below hb s.vb.lt, s.rx.below (hb.mono (Nat.le_of_lt s.bx.lt)), s.bel.trans (hb.mono s.bel.size), s.eq, s.l1, s.l2⟩
theorem FaS.put (s : FaS h x H X V vs rs w0 w) (i : Nat) (v : Value) : FaS h x H X V (vs.set i v) rs w0 (w.setCell ⟨V, i, none⟩ v) := by
  have hb : Below V w (w.setCell ⟨V, i, none⟩ v) := (Below.refl V w).setCell (p := ⟨V, i, none⟩) (Nat.le_refl V) v
  have h1 := s.l1
  have h2 := s.l2
  have h3 := s.eq
  exact ⟨s.hb.below hb (by omega), s.bx.below hb h2, s.vb.set_ i v, s.rx.below (hb.mono (Nat.le_of_lt h2)), s.bel.trans (hb.mono (by omega)), s.eq, s.l1, s.l2⟩
theorem FaS.recs (s : FaS h x H X V vs rs w0 w) (hl : rs.length = x.rn) (hf : RecsFit rs) : x.Recs w.heap.size rs w :=
  ⟨hl, s.rx.more (Nat.le_of_lt s.bx.lt), by rw [← hl]; exact hf.1, fun k => by
    rcases Nat.lt_or_ge k rs.length with h9 | h9
    · exact hf.2 k h9
    · have e : rs.getD k (⟨#[]⟩, ⟨#[]⟩) = (⟨#[]⟩, ⟨#[]⟩) := by rw [List.getD_eq_getElem?_getD, List.getElem?_eq_none h9]; rfl
      unfold rk rv
      rw [e]
      exact ⟨Nat.zero_le _, Nat.zero_le _⟩⟩
end
/-- The verdicts found by then. -/
def VOk (x : Hd) (rs : List (ByteArray × ByteArray)) (n : Int) (a1 a2 a3 : Int) : Prop := (1 < n → a1 ≠ 0 ∧ CanR (kA 1 (.inl rfl)) x rs a1) ∧ (2 < n → a2 ≠ 0 ∧ CanR kA2 x rs a2) ∧ (3 < n → a3 ≠ 0 ∧ CanR (kA 3 (.inr rfl)) x rs a3)
theorem odd_rng {s n : Int} (h : oddB s n = false) : 0 ≤ n ∧ n < 1000000000 := by
  unfold oddB at h
  rw [Bool.or_eq_false_iff, Bool.or_eq_false_iff, decide_eq_false_iff_not, decide_eq_false_iff_not] at h
  omega
def vst (a1 a2 a3 : Int) : List Value := [.int .i64 0, .int .i64 a1, .int .i64 a2, .int .i64 a3]
theorem exec_load_row {P : Program} {o : Oper} {a : Act} {w : World} (ty : TypeId) (x : Operand) (ho : o.op = .load ty x)
    (g : Nat) (hx : a.eval x = .pointer (some ⟨g, 0, none⟩)) (t : TypeId) (cs : Array Value) (fr : Nat × Nat) (d : TypeDesc) (hg : w.heap[g]? = some (.cells cs t fr))
    (hu : P.underlying ty = some d) (hd : (match d with | .struct _ | .array _ _ => true | _ => false) = true) (hi : (P.info? ty).map (·.size) = some cs.size) :
    (execOp a.eval o).run P w = .ok (.value (.agg cs)) w := by
  unfold execOp
  simp only [ho, hx, Instr.loadAt, Instr.sureAddr, Sem.run_bind, Sem.run_pure, Result.andThen_ok, run_loadVar_row w g t ty cs fr d hg hu hd hi]
theorem ApOk.wrx {h : Hd} {k v : ByteArray} (s : ApOk h.zf k v) (A : Option Addr) (c : Nat) : ApOk (h.wrx A c) k v := s
theorem le_len {h : Hd} {mx an ax cn cx : Int} {rs L : List (ByteArray × ByteArray)} (hf : HFits h rs) (hL : LE h.zf mx an ax cn cx rs L) : (tab L).length ≤ 8589934592 := by
  have h1 := hL.len
  have h2 := tab_len L
  have h3 := hf.2.2.2.2.1
  omega
theorem le_vals {h : Hd} {mx an ax cn cx : Int} {rs L : List (ByteArray × ByteArray)} (ok : h.Ok) (hf : HFits h rs) (hL : LE h.zf mx an ax cn cx rs L) : ∀ x ∈ tab L, x.2.size ≤ 2147483647 := fun x hx => by
  obtain ⟨s1, s2, s3, s4, _, s5⟩ := hf
  rcases hL.src x (mem_tab hx) with h9 | ⟨h9, _, _⟩
  · cases h9 with
    | name => exact s1
    | link => exact s2
    | un => exact s3
    | gn => exact s4
    | uid => have h8 := intL_size h.uid ok.uid.1 ok.uid.2; show (mkS (intL h.uid)).size ≤ _; omega
    | gid => have h8 := intL_size h.gid ok.gid.1 ok.gid.2; show (mkS (intL h.gid)).size ≤ _; omega
    | size => have h8 := intL_size h.size ok.size.1 ok.size.2; show (mkS (intL h.size)).size ≤ _; omega
    | mt T hT => obtain ⟨_, _, _, _, _, _, h3, _⟩ := hT; show T.size ≤ _; omega
    | at_ T hT => obtain ⟨_, _, _, _, _, _, h3, _⟩ := hT; show T.size ≤ _; omega
    | ct T hT => obtain ⟨_, _, _, _, _, _, h3, _⟩ := hT; show T.size ≤ _; omega
  · obtain ⟨k, hk, _, e2⟩ := rk_mem (mem_tab h9)
    rw [← e2]
    exact (s5 k hk).2
set_option maxRecDepth 20000 in
set_option maxHeartbeats 16000000 in
theorem fa_walk (C1 : CanAt (kA 1 (.inl rfl))) (C2 : CanAt kA2) (C3 : CanAt (kA 3 (.inr rfl))) (HALW : AlwAt) (h : Hd) (rs : List (ByteArray × ByteArray)) (w : World) (kin : h.In) (hl : rs.length = h.rn) (hr : RC w w.heap.size h.rA (recsV rs)) (hrn : h.rn ≤ 9223372036854775807) (hT : Tab w) (hBK : BK w.heap.size w) :
    Calls Tryz.prog 4 #[h.ival] w (TruP w) := by
  have HB0 : Hid (Blk (w.alloc (.cells h.iarr 26)) w.heap.size 26 h.icells) := Lib.hid (h.iblk w _)
  have HW0 : Hid (Below w.heap.size w (w.alloc (.cells h.iarr 26))) := Lib.hid ((Below.refl _ _).alloc (Nat.le_refl _) _)
  have HFT : Hid (∀ w1, Below w.heap.size w w1 → Calls Tryz.prog 5 #[.agg h.iarr] w1 (Fits3P h rs w1)) := Lib.hid (fun w1 hb => fits3 h w.heap.size rs w1 hl (hr.below hb) hb.size hrn)
  have HPL : Hid (∀ w1, Below w.heap.size w w1 → h.rn ≤ 2147483647 → Calls Tryz.prog 6 #[.agg h.zf.iarr] w1 (PlainP h.zf rs w1)) := Lib.hid (fun w1 hb hn => lawPlain h.zf w.heap.size rs w1 hl (hr.below hb) hb.size hn)
  have HRA : Hid (∀ w1, Below w.heap.size w w1 → RC w1 w.heap.size h.rA (recsV rs)) := Lib.hid (fun w1 hb => hr.below hb)
  have HK := Lib.hid kin
  have HRL := Lib.hid hl
  have HTT := Lib.hid hT
  have HBKK := Lib.hid hBK
  have HC := Lib.hid (And.intro C1 (And.intro C2 (And.intro C3 HALW)))
  unfold Hd.ival
  clear kin hl hr hrn hT hBK C1 C2 C3 HALW
  go_enter Tryz.func4, Tryz.ntmps4
  go_upto_region 1 with fail
  generalize w.alloc (.cells h.iarr 26) = w1 at HB0 HW0 ⊢
  obtain ⟨H, hH⟩ : ∃ H, w.heap.size = H := ⟨_, rfl⟩
  rw [hH] at HB0
  rw [hH]
  have HH := Lib.hid hH
  clear hH
  go_wp2_with (refine wpList_load_row (o := ⟨some 13, _, _, _, _, _⟩) rfl 26 (.tmp 1) rfl H rfl 26 h.iarr (0, 0) _ HB0.out Tryz.underlying26 rfl h.isize_ ?_)
  refine (HFT.out w1 HW0.out).mono ?_
  rintro e w2 ⟨b, rfl, hb, hw⟩
  have HB2 := Lib.hid (HB0.out.below hw HB0.out.lt)
  have HW2 : Hid (Below w.heap.size w w2) := Lib.hid (HW0.out.trans (hw.mono HW0.out.size))
  cases b with
  | false =>
    clear hb hw
    go_wp2
    go_ret
    exact ⟨rfl, HW2.out⟩
  | true =>
  have HFI := Lib.hid (hb rfl)
  clear hb hw HB0 HW0 HFT
  have k20 : w2.cell? ⟨H, 20, none⟩ = some (.int .i64 h.fm) := HB2.out.cell 20
  have f20 := HB2.out.frozen 20
  have HB3 : Hid (Blk (w2.setCell ⟨H, 20, none⟩ (.int .i64 0)) H 26 h.zf.icells) := Lib.hid (HB2.out.set_ 20 (.int .i64 0))
  have HW3 := Lib.hid (HW2.out.setCell (p := ⟨H, 20, none⟩) (by have := HH.out; show _ ≤ H; omega) (.int .i64 0))
  go_upto_region 4 with fail
  clear k20 f20
  generalize w2.setCell ⟨H, 20, none⟩ (.int .i64 0) = w3 at HB3 HW3 ⊢
  clear HB2 HW2
  go_wp2_with (refine wpList_load_row (o := ⟨some 17, _, _, _, _, _⟩) rfl 26 (.tmp 1) rfl H rfl 26 h.zf.iarr (0, 0) _ HB3.out Tryz.underlying26 rfl h.zf.isize_ ?_)
  refine (HPL.out w3 HW3.out (by have h5 := HFI.out.2.2.2.2.1; have h6 := HRL.out; omega)).mono ?_
  rintro e w4 ⟨RA, rc, rfl, hrc, hw4, hcap⟩
  have HCAP : Hid (h.rn ≤ rc) := Lib.hid hcap
  clear hcap
  have HRX := Lib.hid hrc
  have HB4 := Lib.hid (HB3.out.below hw4 HB3.out.lt)
  have HW4 : Hid (Below w.heap.size w w4) := Lib.hid (HW3.out.trans (hw4.mono HW3.out.size))
  clear hrc hw4 HB3 HW3 HPL
  go_upto_region 5 with (refine wpList_store_newr w4 (o := ⟨none, _, _, _, _, _⟩) rfl 32 (.tmp 3) (.tmp 18) rfl _ (h.wrx RA rc).arr rfl rfl (h.wrx RA rc).size_ rfl (h.wrx RA rc).one_ ?_; intro w5 hg5 hb5; have HB5 := Lib.hid hb5; have HG5 := Lib.hid hg5; clear hg5 hb5)
  try go_frame
  obtain ⟨X, hX⟩ : ∃ X, w4.heap.size = X := ⟨_, rfl⟩
  have HS5 : Hid (Blk w5 X 32 (h.wrx RA rc).cells ∧ Blk w5 H 26 h.zf.icells ∧ RC w5 X RA (recsV rs) ∧ Below w.heap.size w w5 ∧ H < X) := Lib.hid (by
    have hb : Below w4.heap.size w4 w5 := (Below.refl _ _).grown HG5.out (Nat.le_refl _) (fun k hk => by cases hk)
    have hlt := HB4.out.lt
    rw [← hX]
    exact ⟨HB5.out, HB4.out.below hb hlt, HRX.out.below hb, HW4.out.trans (hb.mono HW4.out.size), hlt⟩)
  rw [hX]
  clear hX HB5 HG5 HB4 HW4 HRX
  go_upto_region 6 with fail
  have HS6 : Hid (FaS h (h.wrx RA rc) H X w5.heap.size (vst 0 0 0) rs w (w5.alloc (.cells #[.int .i64 0, .int .i64 0, .int .i64 0, .int .i64 0] 40))) := Lib.hid (by
    obtain ⟨b1, b2, b3, b4, b5⟩ := HS5.out
    exact ⟨b2.alloc _, b1.alloc _, Blk.new w5 40 (vst 0 0 0), b3.below ((Below.refl _ _).alloc (Nat.le_of_lt b1.lt) _), b4.alloc b4.size _, HH.out, b5, b1.lt⟩)
  generalize w5.alloc (.cells #[.int .i64 0, .int .i64 0, .int .i64 0, .int .i64 0] 40) = w6 at HS6 ⊢
  obtain ⟨V, hV⟩ : ∃ V, w5.heap.size = V := ⟨_, rfl⟩
  rw [hV] at HS6
  rw [hV]
  clear hV HS5
  have HCX : Hid (∀ wr vs, FaS h (h.wrx RA rc) H X V vs rs w wr → (Calls Tryz.prog 7 #[.agg (h.wrx RA rc).arr, .int .i64 1] wr (CanP (kA 1 (.inl rfl)) (h.wrx RA rc) rs wr)) ∧ (Calls Tryz.prog 7 #[.agg (h.wrx RA rc).arr, .int .i64 2] wr (CanP kA2 (h.wrx RA rc) rs wr)) ∧ (Calls Tryz.prog 7 #[.agg (h.wrx RA rc).arr, .int .i64 3] wr (CanP (kA 3 (.inr rfl)) (h.wrx RA rc) rs wr))) := Lib.hid (fun wr vs s => by
    have hrec := s.recs HRL.out HFI.out.2.2.2.2
    have ok := (HK.out.ok HFI.out).wrx RA rc
    exact ⟨HC.out.1 _ rs wr hrec ok HFI.out.1, HC.out.2.1 _ rs wr hrec ok HFI.out.1, HC.out.2.2.1 _ rs wr hrec ok HFI.out.1⟩)
  have HAL : Hid (∀ wr vs, FaS h (h.wrx RA rc) H X V vs rs w wr → NotStrange (h.wrx RA rc) → Calls Tryz.prog 11 #[.agg h.zf.iarr] wr (AlwP h.zf rs wr)) := Lib.hid (fun wr vs s ns => by
    have ok := (HK.out.ok HFI.out)
    refine HC.out.2.2.2 h.zf w.heap.size rs wr ok.zf HRL.out (HRA.out wr s.bel) s.bel.size HFI.out rfl (tab_below HTT.out s.bel) (HBKK.out.more s.bel s.bel.size) ?_ ?_ ?_ ?_
    · exact odd_rng ns.2.2.1
    · exact fun h9 => odd_rng (ns.2.2.2.1 h9)
    · exact fun h9 => odd_rng (ns.2.2.2.2 h9)
    · rintro ⟨q1, q2⟩
      have q3 := iz_not ok.ms ns.2.2.1
      have q1 : h.mn = 0 := q1
      have q2 : unx h.ms = 0 := q2
      have q3 : izB h.mn (unx h.ms) = false := q3
      rw [q1, q2, iz_zero] at q3
      cases q3)
  go_wp2
  go_loopw [5] (fun i wr => ∃ (n a1 a2 a3 : Int), i = .int .i64 n ∧ Hid (VOk (h.wrx RA rc) rs n a1 a2 a3) ∧ Hid (FaS h (h.wrx RA rc) H X V (vst a1 a2 a3) rs w wr) ∧ (n = 1 ∨ n = 2 ∨ n = 3 ∨ n = 4)) (fun i _ => (4 - intOf i).toNat)
  case atStart => exact ⟨1, 0, 0, 0, rfl, Lib.hid ⟨fun h9 => absurd h9 (by omega), fun h9 => absurd h9 (by omega), fun h9 => absurd h9 (by omega)⟩, HS6, .inl rfl⟩
  case round =>
    obtain ⟨n, a1, a2, a3, rfl, HV, HS, hn⟩ := hrel
    clear HS6
    rcases hn with rfl | rfl | rfl | rfl
    · go_wp2_with (refine wpList_load_row (o := ⟨some 24, _, _, _, _, _⟩) rfl 32 (.tmp 3) rfl X rfl 32 (h.wrx RA rc).arr (0, 0) _ HS.out.bx Tryz.underlying32 rfl (h.wrx RA rc).size_ ?_)
      refine (HCX.out _ _ HS.out).1.mono ?_
      rintro e w7 ⟨v, rfl, hv, hb⟩
      have HS7 := Lib.hid (HS.out.below hb)
      have HVV := Lib.hid hv
      have c1 : w7.cell? ⟨V, 1, none⟩ = some (.int .i64 a1) := HS7.out.vb.cell 1
      have f1 := HS7.out.vb.frozen 1
      have HS8 : Hid (FaS h (h.wrx RA rc) H X V (vst v a2 a3) rs w (w7.setCell ⟨V, 1, none⟩ (.int .i64 v))) := Lib.hid (HS7.out.put 1 (.int .i64 v))
      clear hv hb
      by_cases h0 : v = 0
      · subst h0
        go_wp2
        go_ret
        exact ⟨rfl, HS8.out.bel⟩
      · have HZ := Lib.hid h0
        have h0' : (v == 0) = false := by rw [beq_eq_false_iff_ne]; exact h0
        have HV2 : Hid (VOk (h.wrx RA rc) rs 2 v a2 a3) := Lib.hid ⟨fun _ => ⟨HZ.out, HVV.out.resolve_left HZ.out⟩, fun h9 => absurd h9 (by omega), fun h9 => absurd h9 (by omega)⟩
        clear h0
        go_wp2
        go_roundw
        case rel => exact ⟨2, v, a2, a3, by go_num, HV2, HS8, .inr (.inl rfl)⟩
        case measure => simp [intOf]
    · go_wp2_with (refine wpList_load_row (o := ⟨some 24, _, _, _, _, _⟩) rfl 32 (.tmp 3) rfl X rfl 32 (h.wrx RA rc).arr (0, 0) _ HS.out.bx Tryz.underlying32 rfl (h.wrx RA rc).size_ ?_)
      refine (HCX.out _ _ HS.out).2.1.mono ?_
      rintro e w7 ⟨v, rfl, hv, hb⟩
      have HS7 := Lib.hid (HS.out.below hb)
      have HVV := Lib.hid hv
      have c1 : w7.cell? ⟨V, 2, none⟩ = some (.int .i64 a2) := HS7.out.vb.cell 2
      have f1 := HS7.out.vb.frozen 2
      have HS8 : Hid (FaS h (h.wrx RA rc) H X V (vst a1 v a3) rs w (w7.setCell ⟨V, 2, none⟩ (.int .i64 v))) := Lib.hid (HS7.out.put 2 (.int .i64 v))
      clear hv hb
      by_cases h0 : v = 0
      · subst h0
        go_wp2
        go_ret
        exact ⟨rfl, HS8.out.bel⟩
      · have HZ := Lib.hid h0
        have h0' : (v == 0) = false := by rw [beq_eq_false_iff_ne]; exact h0
        have HV2 : Hid (VOk (h.wrx RA rc) rs 3 a1 v a3) := Lib.hid ⟨fun _ => HV.out.1 (by omega), fun _ => ⟨HZ.out, HVV.out.resolve_left HZ.out⟩, fun h9 => absurd h9 (by omega)⟩
        clear h0
        go_wp2
        go_roundw
        case rel => exact ⟨3, a1, v, a3, by go_num, HV2, HS8, .inr (.inr (.inl rfl))⟩
        case measure => simp [intOf]
    · go_wp2_with (refine wpList_load_row (o := ⟨some 24, _, _, _, _, _⟩) rfl 32 (.tmp 3) rfl X rfl 32 (h.wrx RA rc).arr (0, 0) _ HS.out.bx Tryz.underlying32 rfl (h.wrx RA rc).size_ ?_)
      refine (HCX.out _ _ HS.out).2.2.mono ?_
      rintro e w7 ⟨v, rfl, hv, hb⟩
      have HS7 := Lib.hid (HS.out.below hb)
      have HVV := Lib.hid hv
      have c1 : w7.cell? ⟨V, 3, none⟩ = some (.int .i64 a3) := HS7.out.vb.cell 3
      have f1 := HS7.out.vb.frozen 3
      have HS8 : Hid (FaS h (h.wrx RA rc) H X V (vst a1 a2 v) rs w (w7.setCell ⟨V, 3, none⟩ (.int .i64 v))) := Lib.hid (HS7.out.put 3 (.int .i64 v))
      clear hv hb
      by_cases h0 : v = 0
      · subst h0
        go_wp2
        go_ret
        exact ⟨rfl, HS8.out.bel⟩
      · have HZ := Lib.hid h0
        have h0' : (v == 0) = false := by rw [beq_eq_false_iff_ne]; exact h0
        have HV2 : Hid (VOk (h.wrx RA rc) rs 4 a1 a2 v) := Lib.hid ⟨fun _ => HV.out.1 (by omega), fun _ => HV.out.2.1 (by omega), fun _ => ⟨HZ.out, HVV.out.resolve_left HZ.out⟩⟩
        clear h0
        go_wp2
        go_roundw
        case rel => exact ⟨4, a1, a2, v, by go_num, HV2, HS8, .inr (.inr (.inr rfl))⟩
        case measure => simp [intOf]
    · obtain ⟨m1, d1⟩ := HV.out.1 (by omega)
      obtain ⟨m2, d2⟩ := HV.out.2.1 (by omega)
      obtain ⟨m3, d3⟩ := HV.out.2.2 (by omega)
      have HD1 : Hid (a1 ≠ 0 ∧ CanR (kA 1 (.inl rfl)) h.zf rs a1) := Lib.hid ⟨m1, ⟨d1.ns, d1.steps⟩⟩
      have HD2 : Hid (a2 ≠ 0 ∧ CanR kA2 h.zf rs a2) := Lib.hid ⟨m2, ⟨d2.ns, d2.steps⟩⟩
      have HD3 : Hid (a3 ≠ 0 ∧ CanR (kA 3 (.inr rfl)) h.zf rs a3) := Lib.hid ⟨m3, ⟨d3.ns, d3.steps⟩⟩
      have HNS : Hid (NotStrange (h.wrx RA rc)) := Lib.hid d1.ns
      clear m1 d1 m2 d2 m3 d3 HV HCX
      go_wp2_with (refine wpList_load_row (o := ⟨some 33, _, _, _, _, _⟩) rfl 26 (.tmp 1) rfl H rfl 26 h.zf.iarr (0, 0) _ HS.out.hb Tryz.underlying26 rfl h.zf.isize_ ?_)
      refine (HAL.out _ _ HS.out HNS.out).mono ?_
      rintro e w7 ⟨an, ax, cn, cx, hma, hmc, (⟨⟨A0, c0, rfl⟩, hN, hb⟩ | ⟨u, p, g, L, v, rfl, hY, how, hb⟩)⟩
      · obtain ⟨rfl, rfl, rfl⟩ := fa_no ⟨(HK.out.ok HFI.out).zf, HNS.out, HRL.out, rfl, hma, hmc⟩ HD1.out.2 HD2.out.2 HD3.out.2 HD1.out.1 HD2.out.1 HD3.out.1 hN
        have HS7 := Lib.hid (HS.out.below hb)
        clear hma hmc hN hb
        have c1 : w7.cell? ⟨V, 1, none⟩ = some (.int .i64 2) := HS7.out.vb.cell 1
        have c2 : w7.cell? ⟨V, 2, none⟩ = some (.int .i64 2) := HS7.out.vb.cell 2
        have c3 : w7.cell? ⟨V, 3, none⟩ = some (.int .i64 2) := HS7.out.vb.cell 3
        go_wp2
        go_ret
        exact ⟨rfl, HS7.out.bel⟩
      · obtain ⟨e1, e2, e3, hpx⟩ := fa_yes ⟨(HK.out.ok HFI.out).zf, HNS.out, HRL.out, rfl, hma, hmc⟩ HD1.out.2 HD2.out.2 HD3.out.2 HD1.out.1 HD2.out.1 HD3.out.1 hY
        have HS7 := Lib.hid (HS.out.below hb)
        have HOR := Lib.hid hY.2.2.2.2.2.2.2
        have HLE := Lib.hid hY.2.2.1
        have HPX := Lib.hid hpx
        have HOW := Lib.hid how
        have HE := Lib.hid (And.intro e1 (And.intro e2 e3))
        obtain ⟨A5, c5, rfl, _, hAc, _⟩ := own_form how
        have hA5 := RC.of_own how
        have HR5 := Lib.hid hA5
        clear hma hmc hY hb hpx how hA5
        have c1 : w7.cell? ⟨V, 1, none⟩ = some (.int .i64 a1) := HS7.out.vb.cell 1
        have c2 : w7.cell? ⟨V, 2, none⟩ = some (.int .i64 a2) := HS7.out.vb.cell 2
        have c3 : w7.cell? ⟨V, 3, none⟩ = some (.int .i64 a3) := HS7.out.vb.cell 3
        go_upto_region 13 with fail
        go_cut [70] (fun v wx => v = .bool false ∧ Hid (w7 = wx))
        case first =>
          cases u <;> cases p <;> cases g
          case false.false.false => exact absurd HOR.out (by decide)
          all_goals
            first
              | obtain rfl : a1 = 1 := e1
              | obtain rfl : a1 = 2 := e1
            first
              | obtain rfl : a2 = 1 := e2
              | obtain rfl : a2 = 2 := e2
            first
              | obtain rfl : a3 = 1 := e3
              | obtain rfl : a3 = 2 := e3
            go_wp2
            go_meet
            case rel => exact ⟨rfl, Lib.hid rfl⟩
        case rest =>
          obtain ⟨rfl, hw⟩ := hcut
          obtain rfl := hw.out
          clear hw c2 c3 e2 e3
          cases p with
          | false =>
            cases u
            · obtain rfl : a1 = 2 := e1
              go_wp2
              go_ret
              exact ⟨rfl, HS7.out.bel⟩
            · obtain rfl : a1 = 1 := e1
              go_wp2
              go_ret
              exact ⟨rfl, HS7.out.bel⟩
          | true =>
            go_upto_region 17 with fail
            have HREC : Hid (∀ w', Below w7.heap.size w7 w' → Calls Tryz.prog 13 #[.slice A5 (tab L).length c5] w' (MadeR 60 (tab L).length (tab L) w')) := Lib.hid (fun w' hb => lawRecs A5 _ c5 w7.heap.size (tab L) w' rfl (HR5.out.below hb) hb.size (le_len HFI.out HLE.out))
            have HAPP : Hid (∀ w' A c, RC w' w'.heap.size A (recsV (tab L)) → Calls Tryz.prog 12 #[.agg (h.wrx RA rc).arr, .slice A (tab L).length c] w' (ApP (h.wrx RA rc) A (tab L).length c w')) := Lib.hid (fun w' A c hr => specApply (h.wrx RA rc) A _ c w'.heap.size (tab L) w' rfl hr (Nat.le_refl _) (le_len HFI.out HLE.out) (fun k hk => le_vals (HK.out.ok HFI.out) HFI.out HLE.out _ (mem_rk hk)) (fun k hk => ((HPX.out rfl).1 _ (mem_rk hk)).wrx RA rc))
            go_cut [11, 12] (fun v f wx => (∃ G A6 c6, v = .pointer (some ⟨G, 0, none⟩) ∧ Hid (Blk wx G 32 ((h.wrx RA rc).wr A6 (tab L).length c6 2).cells)) ∧ f = .bool true ∧ Hid (Below w7.heap.size w7 wx))
            case first =>
              refine wp_region_held_drew (S := fun w' => Below w7.heap.size w7 w') (by kernel_rfl) ((Below.refl _ w7).drew) (fun hH => ?_)
              refine wpAnyH_take (i := 0) (oi := ⟨some 79, .load 32 (.tmp 3), 32, "parts.go:317", #[], none⟩) (v := .agg (h.wrx RA rc).arr) rfl (by kernel_rfl) (by kernel_rfl) (by kernel_rfl) (fun _ _ _ h => h) (Or.inl ⟨by rfl, fun w9 hS9 => ?_⟩) hH ?_
              · exact exec_load_row 32 (.tmp 3) rfl X rfl 32 (h.wrx RA rc).arr (0, 0) _ (HS7.out.bx.below hS9 HS7.out.bx.lt) Tryz.underlying32 rfl (h.wrx RA rc).size_
              simp only [Act.put, List.setIfInBounds_toArray, List.set_cons_zero, List.set_cons_succ]
              refine wpAnyH_take (i := 1) (oi := ⟨some 80, .move (.tmp 9), 24, "parts.go:317", #[], none⟩) (v := .slice A5 (tab L).length c5) rfl (by kernel_rfl) (by kernel_rfl) (by kernel_rfl) (fun _ _ _ h => h) (Or.inl ⟨by rfl, fun w9 hS9 => ?_⟩) hH ?_
              · go_simp
              simp only [Act.put, List.setIfInBounds_toArray, List.set_cons_zero, List.set_cons_succ]
              refine wpAnyH_ready (rs := [2, 7]) (by kernel_rfl) (by simp) ?_
              refine AllReadyH.cons (o := ⟨some 81, .call { callee := .value (.func 13), args := #[.tmp 80], argTypes := #[24] }, 30, "parts.go:317", #[⟨1, .data⟩], none⟩) rfl (fun K9 hK9 => ?_) (AllReadyH.cons (o := ⟨some 11, .alloc 32, 0, "parts.go:317", #[], none⟩) rfl (fun K9 hK9 => ?_) (AllReadyH.nil))
              · go_simp
                refine (HREC.out _ hH).mono ?_
                rintro e wq1 ⟨vr, rfl, hown, hbo1⟩
                obtain ⟨A6, c6, rfl, _, _, _⟩ := own_form hown
                have HR6 := Lib.hid (RC.of_own hown)
                clear hown
                refine hK9.out _ _ (hH.trans (hbo1.mono hH.size)) (fun hH2 => ?_)
                clear hK9 K9
                try simp only [Act.put, List.setIfInBounds_toArray, List.set_cons_zero, List.set_cons_succ]
                refine wpAnyH_ready (rs := [3, 7]) (by kernel_rfl) (by simp) ?_
                refine AllReadyH.cons (o := ⟨some 82, .call { callee := .value (.func 12), args := #[.tmp 79, .tmp 81], argTypes := #[32, 30] }, 43, "parts.go:317", #[⟨0, .data⟩, ⟨2, .data⟩, ⟨2, .chain⟩], none⟩) rfl (fun K9 hK9 => ?_) (AllReadyH.cons (o := ⟨some 11, .alloc 32, 0, "parts.go:317", #[], none⟩) rfl (fun K9 hK9 => ?_) (AllReadyH.nil))
                · go_simp
                  refine (HAPP.out _ A6 c6 HR6.out).mono ?_
                  rintro e wq2 ⟨rfl, hbo2⟩
                  refine hK9.out _ _ (hH2.trans (hbo2.mono hH2.size)) (fun hH3 => ?_)
                  clear hK9 K9
                  try simp only [Act.put, List.setIfInBounds_toArray, List.set_cons_zero, List.set_cons_succ]
                  refine wpAnyH_take (i := 4) (oi := ⟨some 78, .move (.tmp 82), 43, "parts.go:317", #[⟨3, .data⟩], none⟩) (v := .tuple #[.agg ((h.wrx RA rc).wr A6 (tab L).length c6 2).arr, .bool true]) rfl (by kernel_rfl) (by kernel_rfl) (by kernel_rfl) (fun _ _ _ h => h) (Or.inl ⟨by rfl, fun w9 hS9 => ?_⟩) hH3 ?_
                  · go_simp
                    rfl
                  simp only [Act.put, List.setIfInBounds_toArray, List.set_cons_zero, List.set_cons_succ]
                  refine wpAnyH_take (i := 5) (oi := ⟨some 83, .extract (.tmp 78) 0, 32, "parts.go:317", #[⟨4, .data⟩], none⟩) (v := .agg ((h.wrx RA rc).wr A6 (tab L).length c6 2).arr) rfl (by kernel_rfl) (by kernel_rfl) (by kernel_rfl) (fun _ _ _ h => h) (Or.inl ⟨by rfl, fun w9 hS9 => ?_⟩) hH3 ?_
                  · go_simp
                  simp only [Act.put, List.setIfInBounds_toArray, List.set_cons_zero, List.set_cons_succ]
                  refine wpAnyH_take (i := 6) (oi := ⟨some 84, .extract (.tmp 78) 1, 4, "parts.go:317", #[⟨4, .data⟩, ⟨8, .gcOnly .lateStores⟩], none⟩) (v := .bool true) rfl (by kernel_rfl) (by kernel_rfl) (by kernel_rfl) (fun _ _ _ h => h) (Or.inl ⟨by rfl, fun w9 hS9 => ?_⟩) hH3 ?_
                  · go_simp
                  simp only [Act.put, List.setIfInBounds_toArray, List.set_cons_zero, List.set_cons_succ]
                  refine wpAnyH_ready (rs := [7]) (by kernel_rfl) (by simp) ?_
                  refine AllReadyH.cons (o := ⟨some 11, .alloc 32, 0, "parts.go:317", #[], none⟩) rfl (fun K9 hK9 => ?_) (AllReadyH.nil)
                  go_simp
                  have HG3 : Hid (Blk (wq2.alloc (.cells #[.int .u8 0, .string { data := #[] }, .string { data := #[] }, .int .i64 0, .int .i64 0, .int .i64 0, .int .i64 0, .string { data := #[] }, .string { data := #[] }, .int .i64 0, .int .i64 0, .bool false, .bool false, .int .i64 0, .int .i64 0, .int .i64 0, .int .i64 0, .int .i64 0, .int .i64 0, .slice none 0 0, .int .i64 0] 32)) wq2.heap.size 32 hd0.cells) := Lib.hid (Blk.new wq2 32 hd0.cells)
                  replace HR6 := Lib.hid ((HR6.out.below ((Below.refl _ _).alloc (Nat.le_refl _) (.cells #[.int .u8 0, .string { data := #[] }, .string { data := #[] }, .int .i64 0, .int .i64 0, .int .i64 0, .int .i64 0, .string { data := #[] }, .string { data := #[] }, .int .i64 0, .int .i64 0, .bool false, .bool false, .int .i64 0, .int .i64 0, .int .i64 0, .int .i64 0, .int .i64 0, .int .i64 0, .slice none 0 0, .int .i64 0] 32))).more ((Below.refl _ _).alloc (Nat.le_refl _) (.cells #[.int .u8 0, .string { data := #[] }, .string { data := #[] }, .int .i64 0, .int .i64 0, .int .i64 0, .int .i64 0, .string { data := #[] }, .string { data := #[] }, .int .i64 0, .int .i64 0, .bool false, .bool false, .int .i64 0, .int .i64 0, .int .i64 0, .int .i64 0, .int .i64 0, .int .i64 0, .slice none 0 0, .int .i64 0] 32)).size)
                  have hGE3 : w7.heap.size ≤ wq2.heap.size := hH3.size
                  refine hK9.out _ _ (hH3.trans (((Below.refl _ _).alloc (Nat.le_refl _) _).mono hH3.size)) (fun hH7a => ?_)
                  clear hK9 K9
                  try simp only [Act.put, List.setIfInBounds_toArray, List.set_cons_zero, List.set_cons_succ]
                  refine wpAnyH_ready (rs := [8]) (by kernel_rfl) (by simp) ?_
                  refine AllReadyH.cons (o := ⟨none, .store 32 (.tmp 11) (.tmp 83), 0, "parts.go:317", #[⟨7, .data⟩, ⟨5, .data⟩, ⟨3, .chain⟩, ⟨0, .phase⟩, ⟨1, .phase⟩, ⟨2, .phase⟩, ⟨3, .phase⟩, ⟨4, .phase⟩, ⟨5, .phase⟩, ⟨6, .textOnly .lateStores⟩, ⟨7, .phase⟩], none⟩) rfl (fun K9 hK9 => ?_) (AllReadyH.nil)
                  rw [if_pos (by rfl)]
                  refine wp_store_row 32 (.tmp 11) (.tmp 83) rfl (wq2.heap.size) ((h.wrx RA rc).wr A6 (tab L).length c6 2).arr rfl rfl 32 hd0.arr HG3.out ((h.wrx RA rc).wr A6 (tab L).length c6 2).size_ rfl ((h.wrx RA rc).wr A6 (tab L).length c6 2).one_ ?_
                  have HG4 : Hid (Blk _ (wq2.heap.size) 32 ((h.wrx RA rc).wr A6 (tab L).length c6 2).cells) := Lib.hid (setRow_blk _ (wq2.heap.size) _ hd0.cells ((h.wrx RA rc).wr A6 (tab L).length c6 2).cells HG3.out)
                  refine hK9.out _ _ (hH7a.grown (setRow_grown _ _ _) hH7a.size (fun q hq => by cases hq; exact hGE3)) (fun hH8a => ?_)
                  clear hK9 K9
                  try simp only [Act.put]
                  refine wpAnyH_take (i := 9) (oi := ⟨some 12, .assign (.tmp 84), 4, "parts.go:317", #[⟨6, .data⟩, ⟨8, .chain⟩, ⟨0, .phase⟩, ⟨1, .phase⟩, ⟨2, .phase⟩, ⟨3, .phase⟩, ⟨4, .phase⟩, ⟨5, .phase⟩, ⟨6, .phase⟩, ⟨7, .phase⟩, ⟨8, .phase⟩], none⟩) (v := .bool true) rfl (by kernel_rfl) (by kernel_rfl) (by kernel_rfl) (fun _ _ _ h => h) (Or.inl ⟨by rfl, fun w9 hS9 => ?_⟩) hH8a ?_
                  · go_simp
                  simp only [Act.put, List.setIfInBounds_toArray, List.set_cons_zero, List.set_cons_succ]
                  refine wpAnyH_done (by kernel_rfl) ?_ _
                  go_wp2_with fail
                  go_meet
                  case rel => exact ⟨⟨_, A6, c6, rfl, HG4⟩, rfl, Lib.hid hH8a⟩
                · go_simp
                  have HG2 : Hid (Blk (wq1.alloc (.cells #[.int .u8 0, .string { data := #[] }, .string { data := #[] }, .int .i64 0, .int .i64 0, .int .i64 0, .int .i64 0, .string { data := #[] }, .string { data := #[] }, .int .i64 0, .int .i64 0, .bool false, .bool false, .int .i64 0, .int .i64 0, .int .i64 0, .int .i64 0, .int .i64 0, .int .i64 0, .slice none 0 0, .int .i64 0] 32)) wq1.heap.size 32 hd0.cells) := Lib.hid (Blk.new wq1 32 hd0.cells)
                  replace HR6 := Lib.hid ((HR6.out.below ((Below.refl _ _).alloc (Nat.le_refl _) (.cells #[.int .u8 0, .string { data := #[] }, .string { data := #[] }, .int .i64 0, .int .i64 0, .int .i64 0, .int .i64 0, .string { data := #[] }, .string { data := #[] }, .int .i64 0, .int .i64 0, .bool false, .bool false, .int .i64 0, .int .i64 0, .int .i64 0, .int .i64 0, .int .i64 0, .int .i64 0, .slice none 0 0, .int .i64 0] 32))).more ((Below.refl _ _).alloc (Nat.le_refl _) (.cells #[.int .u8 0, .string { data := #[] }, .string { data := #[] }, .int .i64 0, .int .i64 0, .int .i64 0, .int .i64 0, .string { data := #[] }, .string { data := #[] }, .int .i64 0, .int .i64 0, .bool false, .bool false, .int .i64 0, .int .i64 0, .int .i64 0, .int .i64 0, .int .i64 0, .int .i64 0, .slice none 0 0, .int .i64 0] 32)).size)
                  have hGE2 : w7.heap.size ≤ wq1.heap.size := hH2.size
                  refine hK9.out _ _ (hH2.trans (((Below.refl _ _).alloc (Nat.le_refl _) _).mono hH2.size)) (fun hH3a => ?_)
                  clear hK9 K9
                  try simp only [Act.put, List.setIfInBounds_toArray, List.set_cons_zero, List.set_cons_succ]
                  refine wpAnyH_ready (rs := [3]) (by kernel_rfl) (by simp) ?_
                  refine AllReadyH.cons (o := ⟨some 82, .call { callee := .value (.func 12), args := #[.tmp 79, .tmp 81], argTypes := #[32, 30] }, 43, "parts.go:317", #[⟨0, .data⟩, ⟨2, .data⟩, ⟨2, .chain⟩], none⟩) rfl (fun K9 hK9 => ?_) (AllReadyH.nil)
                  go_simp
                  refine (HAPP.out _ A6 c6 HR6.out).mono ?_
                  rintro e wq3 ⟨rfl, hbo3⟩
                  have HG3 := Lib.hid (HG2.out.below hbo3 HG2.out.lt)
                  refine hK9.out _ _ (hH3a.trans (hbo3.mono hH3a.size)) (fun hH4a => ?_)
                  clear hK9 K9
                  try simp only [Act.put, List.setIfInBounds_toArray, List.set_cons_zero, List.set_cons_succ]
                  refine wpAnyH_take (i := 4) (oi := ⟨some 78, .move (.tmp 82), 43, "parts.go:317", #[⟨3, .data⟩], none⟩) (v := .tuple #[.agg ((h.wrx RA rc).wr A6 (tab L).length c6 2).arr, .bool true]) rfl (by kernel_rfl) (by kernel_rfl) (by kernel_rfl) (fun _ _ _ h => h) (Or.inl ⟨by rfl, fun w9 hS9 => ?_⟩) hH4a ?_
                  · go_simp
                    rfl
                  simp only [Act.put, List.setIfInBounds_toArray, List.set_cons_zero, List.set_cons_succ]
                  refine wpAnyH_take (i := 5) (oi := ⟨some 83, .extract (.tmp 78) 0, 32, "parts.go:317", #[⟨4, .data⟩], none⟩) (v := .agg ((h.wrx RA rc).wr A6 (tab L).length c6 2).arr) rfl (by kernel_rfl) (by kernel_rfl) (by kernel_rfl) (fun _ _ _ h => h) (Or.inl ⟨by rfl, fun w9 hS9 => ?_⟩) hH4a ?_
                  · go_simp
                  simp only [Act.put, List.setIfInBounds_toArray, List.set_cons_zero, List.set_cons_succ]
                  refine wpAnyH_take (i := 6) (oi := ⟨some 84, .extract (.tmp 78) 1, 4, "parts.go:317", #[⟨4, .data⟩, ⟨8, .gcOnly .lateStores⟩], none⟩) (v := .bool true) rfl (by kernel_rfl) (by kernel_rfl) (by kernel_rfl) (fun _ _ _ h => h) (Or.inl ⟨by rfl, fun w9 hS9 => ?_⟩) hH4a ?_
                  · go_simp
                  simp only [Act.put, List.setIfInBounds_toArray, List.set_cons_zero, List.set_cons_succ]
                  refine wpAnyH_ready (rs := [8]) (by kernel_rfl) (by simp) ?_
                  refine AllReadyH.cons (o := ⟨none, .store 32 (.tmp 11) (.tmp 83), 0, "parts.go:317", #[⟨7, .data⟩, ⟨5, .data⟩, ⟨3, .chain⟩, ⟨0, .phase⟩, ⟨1, .phase⟩, ⟨2, .phase⟩, ⟨3, .phase⟩, ⟨4, .phase⟩, ⟨5, .phase⟩, ⟨6, .textOnly .lateStores⟩, ⟨7, .phase⟩], none⟩) rfl (fun K9 hK9 => ?_) (AllReadyH.nil)
                  rw [if_pos (by rfl)]
                  refine wp_store_row 32 (.tmp 11) (.tmp 83) rfl (wq1.heap.size) ((h.wrx RA rc).wr A6 (tab L).length c6 2).arr rfl rfl 32 hd0.arr HG3.out ((h.wrx RA rc).wr A6 (tab L).length c6 2).size_ rfl ((h.wrx RA rc).wr A6 (tab L).length c6 2).one_ ?_
                  have HG4 : Hid (Blk _ (wq1.heap.size) 32 ((h.wrx RA rc).wr A6 (tab L).length c6 2).cells) := Lib.hid (setRow_blk _ (wq1.heap.size) _ hd0.cells ((h.wrx RA rc).wr A6 (tab L).length c6 2).cells HG3.out)
                  refine hK9.out _ _ (hH4a.grown (setRow_grown _ _ _) hH4a.size (fun q hq => by cases hq; exact hGE2)) (fun hH8a => ?_)
                  clear hK9 K9
                  try simp only [Act.put]
                  refine wpAnyH_take (i := 9) (oi := ⟨some 12, .assign (.tmp 84), 4, "parts.go:317", #[⟨6, .data⟩, ⟨8, .chain⟩, ⟨0, .phase⟩, ⟨1, .phase⟩, ⟨2, .phase⟩, ⟨3, .phase⟩, ⟨4, .phase⟩, ⟨5, .phase⟩, ⟨6, .phase⟩, ⟨7, .phase⟩, ⟨8, .phase⟩], none⟩) (v := .bool true) rfl (by kernel_rfl) (by kernel_rfl) (by kernel_rfl) (fun _ _ _ h => h) (Or.inl ⟨by rfl, fun w9 hS9 => ?_⟩) hH8a ?_
                  · go_simp
                  simp only [Act.put, List.setIfInBounds_toArray, List.set_cons_zero, List.set_cons_succ]
                  refine wpAnyH_done (by kernel_rfl) ?_ _
                  go_wp2_with fail
                  go_meet
                  case rel => exact ⟨⟨_, A6, c6, rfl, HG4⟩, rfl, Lib.hid hH8a⟩
              · go_simp
                have HG1 : Hid (Blk (w7.drew.alloc (.cells #[.int .u8 0, .string { data := #[] }, .string { data := #[] }, .int .i64 0, .int .i64 0, .int .i64 0, .int .i64 0, .string { data := #[] }, .string { data := #[] }, .int .i64 0, .int .i64 0, .bool false, .bool false, .int .i64 0, .int .i64 0, .int .i64 0, .int .i64 0, .int .i64 0, .int .i64 0, .slice none 0 0, .int .i64 0] 32)) w7.drew.heap.size 32 hd0.cells) := Lib.hid (Blk.new w7.drew 32 hd0.cells)
                have hGE1 : w7.heap.size ≤ w7.drew.heap.size := hH.size
                refine hK9.out _ _ (hH.trans (((Below.refl _ _).alloc (Nat.le_refl _) _).mono hH.size)) (fun hH2a => ?_)
                clear hK9 K9
                try simp only [Act.put, List.setIfInBounds_toArray, List.set_cons_zero, List.set_cons_succ]
                refine wpAnyH_ready (rs := [2]) (by kernel_rfl) (by simp) ?_
                refine AllReadyH.cons (o := ⟨some 81, .call { callee := .value (.func 13), args := #[.tmp 80], argTypes := #[24] }, 30, "parts.go:317", #[⟨1, .data⟩], none⟩) rfl (fun K9 hK9 => ?_) (AllReadyH.nil)
                go_simp
                refine (HREC.out _ hH2a).mono ?_
                rintro e wq2 ⟨vr, rfl, hown, hbo2⟩
                obtain ⟨A6, c6, rfl, _, _, _⟩ := own_form hown
                have HR6 := Lib.hid (RC.of_own hown)
                clear hown
                have HG2 := Lib.hid (HG1.out.below hbo2 HG1.out.lt)
                refine hK9.out _ _ (hH2a.trans (hbo2.mono hH2a.size)) (fun hH3a => ?_)
                clear hK9 K9
                try simp only [Act.put, List.setIfInBounds_toArray, List.set_cons_zero, List.set_cons_succ]
                refine wpAnyH_ready (rs := [3]) (by kernel_rfl) (by simp) ?_
                refine AllReadyH.cons (o := ⟨some 82, .call { callee := .value (.func 12), args := #[.tmp 79, .tmp 81], argTypes := #[32, 30] }, 43, "parts.go:317", #[⟨0, .data⟩, ⟨2, .data⟩, ⟨2, .chain⟩], none⟩) rfl (fun K9 hK9 => ?_) (AllReadyH.nil)
                go_simp
                refine (HAPP.out _ A6 c6 HR6.out).mono ?_
                rintro e wq3 ⟨rfl, hbo3⟩
                have HG3 := Lib.hid (HG2.out.below hbo3 HG2.out.lt)
                refine hK9.out _ _ (hH3a.trans (hbo3.mono hH3a.size)) (fun hH4a => ?_)
                clear hK9 K9
                try simp only [Act.put, List.setIfInBounds_toArray, List.set_cons_zero, List.set_cons_succ]
                refine wpAnyH_take (i := 4) (oi := ⟨some 78, .move (.tmp 82), 43, "parts.go:317", #[⟨3, .data⟩], none⟩) (v := .tuple #[.agg ((h.wrx RA rc).wr A6 (tab L).length c6 2).arr, .bool true]) rfl (by kernel_rfl) (by kernel_rfl) (by kernel_rfl) (fun _ _ _ h => h) (Or.inl ⟨by rfl, fun w9 hS9 => ?_⟩) hH4a ?_
                · go_simp
                  rfl
                simp only [Act.put, List.setIfInBounds_toArray, List.set_cons_zero, List.set_cons_succ]
                refine wpAnyH_take (i := 5) (oi := ⟨some 83, .extract (.tmp 78) 0, 32, "parts.go:317", #[⟨4, .data⟩], none⟩) (v := .agg ((h.wrx RA rc).wr A6 (tab L).length c6 2).arr) rfl (by kernel_rfl) (by kernel_rfl) (by kernel_rfl) (fun _ _ _ h => h) (Or.inl ⟨by rfl, fun w9 hS9 => ?_⟩) hH4a ?_
                · go_simp
                simp only [Act.put, List.setIfInBounds_toArray, List.set_cons_zero, List.set_cons_succ]
                refine wpAnyH_take (i := 6) (oi := ⟨some 84, .extract (.tmp 78) 1, 4, "parts.go:317", #[⟨4, .data⟩, ⟨8, .gcOnly .lateStores⟩], none⟩) (v := .bool true) rfl (by kernel_rfl) (by kernel_rfl) (by kernel_rfl) (fun _ _ _ h => h) (Or.inl ⟨by rfl, fun w9 hS9 => ?_⟩) hH4a ?_
                · go_simp
                simp only [Act.put, List.setIfInBounds_toArray, List.set_cons_zero, List.set_cons_succ]
                refine wpAnyH_ready (rs := [8]) (by kernel_rfl) (by simp) ?_
                refine AllReadyH.cons (o := ⟨none, .store 32 (.tmp 11) (.tmp 83), 0, "parts.go:317", #[⟨7, .data⟩, ⟨5, .data⟩, ⟨3, .chain⟩, ⟨0, .phase⟩, ⟨1, .phase⟩, ⟨2, .phase⟩, ⟨3, .phase⟩, ⟨4, .phase⟩, ⟨5, .phase⟩, ⟨6, .textOnly .lateStores⟩, ⟨7, .phase⟩], none⟩) rfl (fun K9 hK9 => ?_) (AllReadyH.nil)
                rw [if_pos (by rfl)]
                refine wp_store_row 32 (.tmp 11) (.tmp 83) rfl (w7.drew.heap.size) ((h.wrx RA rc).wr A6 (tab L).length c6 2).arr rfl rfl 32 hd0.arr HG3.out ((h.wrx RA rc).wr A6 (tab L).length c6 2).size_ rfl ((h.wrx RA rc).wr A6 (tab L).length c6 2).one_ ?_
                have HG4 : Hid (Blk _ (w7.drew.heap.size) 32 ((h.wrx RA rc).wr A6 (tab L).length c6 2).cells) := Lib.hid (setRow_blk _ (w7.drew.heap.size) _ hd0.cells ((h.wrx RA rc).wr A6 (tab L).length c6 2).cells HG3.out)
                refine hK9.out _ _ (hH4a.grown (setRow_grown _ _ _) hH4a.size (fun q hq => by cases hq; exact hGE1)) (fun hH8a => ?_)
                clear hK9 K9
                try simp only [Act.put]
                refine wpAnyH_take (i := 9) (oi := ⟨some 12, .assign (.tmp 84), 4, "parts.go:317", #[⟨6, .data⟩, ⟨8, .chain⟩, ⟨0, .phase⟩, ⟨1, .phase⟩, ⟨2, .phase⟩, ⟨3, .phase⟩, ⟨4, .phase⟩, ⟨5, .phase⟩, ⟨6, .phase⟩, ⟨7, .phase⟩, ⟨8, .phase⟩], none⟩) (v := .bool true) rfl (by kernel_rfl) (by kernel_rfl) (by kernel_rfl) (fun _ _ _ h => h) (Or.inl ⟨by rfl, fun w9 hS9 => ?_⟩) hH8a ?_
                · go_simp
                simp only [Act.put, List.setIfInBounds_toArray, List.set_cons_zero, List.set_cons_succ]
                refine wpAnyH_done (by kernel_rfl) ?_ _
                go_wp2_with fail
                go_meet
                case rel => exact ⟨⟨_, A6, c6, rfl, HG4⟩, rfl, Lib.hid hH8a⟩
            case rest =>
              obtain ⟨⟨G, A6, c6, rfl, HG⟩, rfl, HWX⟩ := hcut
              clear HAPP HREC
              obtain ⟨w8, hw8⟩ : ∃ w5, w5 = wc := ⟨_, rfl⟩
              subst hw8
              have HSX := Lib.hid (HS7.out.below HWX.out)
              have HR8 := Lib.hid ((HR5.out.below HWX.out).more HWX.out.size)
              clear HS7 HR5
              have HREC : Hid (∀ w', Below w8.heap.size w8 w' → Calls Tryz.prog 13 #[.slice A5 (tab L).length c5] w' (MadeR 60 (tab L).length (tab L) w')) := Lib.hid (fun w' hb => lawRecs A5 _ c5 w8.heap.size (tab L) w' rfl (HR8.out.below hb) hb.size (le_len HFI.out HLE.out))
              have HHAS : Hid (∀ w' A c, Below w8.heap.size w8 w' → RC w' w'.heap.size A (recsV (tab L)) → Calls Tryz.prog 15 #[.slice A (tab L).length c, .slice RA h.rn rc] w' fun e w2 => e = .returned (.bool true) ∧ Below w'.heap.size w' w2) := Lib.hid (fun w' A c hb hr => specHas A RA _ c h.rn rc w'.heap.size (tab L) rs w' rfl HRL.out hr (((HSX.out.rx.more (Nat.le_of_lt HSX.out.bx.lt)).below hb).more hb.size) (Nat.le_refl _) (le_len HFI.out HLE.out) (by have h5 := HFI.out.2.2.2.2.1; have h6 := HRL.out; omega) HCAP.out (HPX.out rfl).2)
              cases u with
              | false =>
                obtain rfl : a1 = 2 := e1
                go_upto_region 18 with fail
                refine wp_region_held_drew (S := fun w' => Below w8.heap.size w8 w') (by kernel_rfl) ((Below.refl _ w8).drew) (fun hH => ?_)
                refine wpAnyH_take (i := 0) (oi := ⟨some 85, .move (.tmp 12), 4, "parts.go:318", #[], none⟩) (v := .bool true) rfl (by kernel_rfl) (by kernel_rfl) (by kernel_rfl) (fun _ _ _ h => h) (Or.inl ⟨by rfl, fun w9 hS9 => ?_⟩) hH ?_
                · go_simp
                simp only [Act.put, List.setIfInBounds_toArray, List.set_cons_zero, List.set_cons_succ]
                refine wpAnyH_take (i := 1) (oi := ⟨some 86, .move (.tmp 85), 4, "parts.go:318", #[⟨0, .data⟩], none⟩) (v := .bool true) rfl (by kernel_rfl) (by kernel_rfl) (by kernel_rfl) (fun _ _ _ h => h) (Or.inl ⟨by rfl, fun w9 hS9 => ?_⟩) hH ?_
                · go_simp
                simp only [Act.put, List.setIfInBounds_toArray, List.set_cons_zero, List.set_cons_succ]
                refine wpAnyH_take (i := 2) (oi := ⟨some 87, .load 32 (.tmp 11), 32, "parts.go:318", #[⟨1, .guard⟩], some (1, true)⟩) (v := .agg ((h.wrx RA rc).wr A6 (tab L).length c6 2).arr) rfl (by kernel_rfl) (by kernel_rfl) (by kernel_rfl) (fun _ _ _ h => h) (Or.inl ⟨by rfl, fun w9 hS9 => ?_⟩) hH ?_
                · exact exec_load_row 32 (.tmp 11) rfl G rfl 32 ((h.wrx RA rc).wr A6 (tab L).length c6 2).arr (0, 0) _ (HG.out.below hS9 HG.out.lt) Tryz.underlying32 rfl ((h.wrx RA rc).wr A6 (tab L).length c6 2).size_
                simp only [Act.put, List.setIfInBounds_toArray, List.set_cons_zero, List.set_cons_succ]
                refine wpAnyH_take (i := 3) (oi := ⟨some 88, .load 32 (.tmp 3), 32, "parts.go:318", #[⟨1, .guard⟩], some (1, true)⟩) (v := .agg (h.wrx RA rc).arr) rfl (by kernel_rfl) (by kernel_rfl) (by kernel_rfl) (fun _ _ _ h => h) (Or.inl ⟨by rfl, fun w9 hS9 => ?_⟩) hH ?_
                · exact exec_load_row 32 (.tmp 3) rfl X rfl 32 (h.wrx RA rc).arr (0, 0) _ (HSX.out.bx.below hS9 HSX.out.bx.lt) Tryz.underlying32 rfl (h.wrx RA rc).size_
                simp only [Act.put, List.setIfInBounds_toArray, List.set_cons_zero, List.set_cons_succ]
                refine wpAnyH_ready (rs := [4]) (by kernel_rfl) (by simp) ?_
                refine AllReadyH.cons (o := ⟨some 89, .call { callee := .value (.func 14), args := #[.tmp 87, .tmp 88], argTypes := #[32, 32] }, 4, "parts.go:318", #[⟨2, .data⟩, ⟨3, .data⟩, ⟨1, .chain⟩, ⟨1, .guard⟩], some (1, true)⟩) rfl (fun K9 hK9 => ?_) (AllReadyH.nil)
                go_simp
                refine (specSame (h.wrx RA rc) A6 (tab L).length c6 2 _).mono ?_
                rintro e wq1 ⟨rfl, hbo1⟩
                refine hK9.out _ _ (hH.trans (hbo1.mono hH.size)) (fun hH4 => ?_)
                clear hK9 K9
                try simp only [Act.put, List.setIfInBounds_toArray, List.set_cons_zero, List.set_cons_succ]
                refine wpAnyH_take (i := 5) (oi := ⟨some 90, .pick (.tmp 86) (.tmp 89) (.const (.bool false)), 4, "parts.go:318", #[⟨1, .data⟩, ⟨4, .data⟩], none⟩) (v := .bool true) rfl (by kernel_rfl) (by kernel_rfl) (by kernel_rfl) (fun _ _ _ h => h) (Or.inl ⟨by rfl, fun w9 hS9 => ?_⟩) hH4 ?_
                · go_simp
                simp only [Act.put, List.setIfInBounds_toArray, List.set_cons_zero, List.set_cons_succ]
                refine wpAnyH_take (i := 6) (oi := ⟨some 91, .move (.tmp 90), 4, "parts.go:318", #[⟨5, .data⟩, ⟨4, .chain⟩], none⟩) (v := .bool true) rfl (by kernel_rfl) (by kernel_rfl) (by kernel_rfl) (fun _ _ _ h => h) (Or.inl ⟨by rfl, fun w9 hS9 => ?_⟩) hH4 ?_
                · go_simp
                simp only [Act.put, List.setIfInBounds_toArray, List.set_cons_zero, List.set_cons_succ]
                refine wpAnyH_take (i := 7) (oi := ⟨some 92, .move (.tmp 9), 24, "parts.go:318", #[⟨6, .guard⟩], some (6, true)⟩) (v := .slice A5 (tab L).length c5) rfl (by kernel_rfl) (by kernel_rfl) (by kernel_rfl) (fun _ _ _ h => h) (Or.inl ⟨by rfl, fun w9 hS9 => ?_⟩) hH4 ?_
                · go_simp
                simp only [Act.put, List.setIfInBounds_toArray, List.set_cons_zero, List.set_cons_succ]
                refine wpAnyH_take (i := 9) (oi := ⟨some 94, .fieldAddr 32 (.tmp 3) 16, 0, "parts.go:318", #[⟨6, .guard⟩], some (6, true)⟩) (v := .pointer (some ⟨X, 19, none⟩)) rfl (by kernel_rfl) (by kernel_rfl) (by kernel_rfl) (fun _ _ _ h => h) (Or.inl ⟨by rfl, fun w9 hS9 => ?_⟩) hH4 ?_
                · go_simp
                simp only [Act.put, List.setIfInBounds_toArray, List.set_cons_zero, List.set_cons_succ]
                refine wpAnyH_take (i := 10) (oi := ⟨some 95, .load 30 (.tmp 94), 30, "parts.go:318", #[⟨9, .data⟩, ⟨6, .guard⟩], some (6, true)⟩) (v := .slice RA h.rn rc) rfl (by kernel_rfl) (by kernel_rfl) (by kernel_rfl) (fun _ _ _ h => h) (Or.inl ⟨by rfl, fun w9 hS9 => ?_⟩) hH4 ?_
                · have g0 : w9.cell? ⟨X, 19, none⟩ = some (.slice RA h.rn rc) := (HSX.out.bx.below hS9 HSX.out.bx.lt).cell 19
                  go_simp
                simp only [Act.put, List.setIfInBounds_toArray, List.set_cons_zero, List.set_cons_succ]
                refine wpAnyH_ready (rs := [8]) (by kernel_rfl) (by simp) ?_
                refine AllReadyH.cons (o := ⟨some 93, .call { callee := .value (.func 13), args := #[.tmp 92], argTypes := #[24] }, 30, "parts.go:318", #[⟨7, .data⟩, ⟨6, .chain⟩, ⟨6, .guard⟩], some (6, true)⟩) rfl (fun K9 hK9 => ?_) (AllReadyH.nil)
                go_simp
                refine (HREC.out _ hH4).mono ?_
                rintro e wq2 ⟨vr, rfl, hown, hbo2⟩
                obtain ⟨A9, c9, rfl, _, _, _⟩ := own_form hown
                have HR9 := Lib.hid (RC.of_own hown)
                clear hown
                refine hK9.out _ _ (hH4.trans (hbo2.mono hH4.size)) (fun hH10 => ?_)
                clear hK9 K9
                try simp only [Act.put, List.setIfInBounds_toArray, List.set_cons_zero, List.set_cons_succ]
                refine wpAnyH_ready (rs := [11]) (by kernel_rfl) (by simp) ?_
                refine AllReadyH.cons (o := ⟨some 96, .call { callee := .value (.func 15), args := #[.tmp 93, .tmp 95], argTypes := #[30, 30] }, 4, "parts.go:318", #[⟨8, .data⟩, ⟨10, .data⟩, ⟨8, .chain⟩, ⟨6, .guard⟩], some (6, true)⟩) rfl (fun K9 hK9 => ?_) (AllReadyH.nil)
                go_simp
                refine (HHAS.out wq2 A9 c9 hH10 HR9.out).mono ?_
                rintro e wq3 ⟨rfl, hbo3⟩
                refine hK9.out _ _ (hH10.trans (hbo3.mono hH10.size)) (fun hH11 => ?_)
                clear hK9 K9
                try simp only [Act.put, List.setIfInBounds_toArray, List.set_cons_zero, List.set_cons_succ]
                refine wpAnyH_take (i := 12) (oi := ⟨some 97, .pick (.tmp 91) (.tmp 96) (.const (.bool false)), 4, "parts.go:318", #[⟨6, .data⟩, ⟨11, .data⟩], none⟩) (v := .bool true) rfl (by kernel_rfl) (by kernel_rfl) (by kernel_rfl) (fun _ _ _ h => h) (Or.inl ⟨by rfl, fun w9 hS9 => ?_⟩) hH11 ?_
                · go_simp
                simp only [Act.put, List.setIfInBounds_toArray, List.set_cons_zero, List.set_cons_succ]
                refine wpAnyH_take (i := 13) (oi := ⟨some 98, .move (.tmp 97), 4, "parts.go:318", #[⟨12, .data⟩, ⟨11, .chain⟩], none⟩) (v := .bool true) rfl (by kernel_rfl) (by kernel_rfl) (by kernel_rfl) (fun _ _ _ h => h) (Or.inl ⟨by rfl, fun w9 hS9 => ?_⟩) hH11 ?_
                · go_simp
                simp only [Act.put, List.setIfInBounds_toArray, List.set_cons_zero, List.set_cons_succ]
                refine wpAnyH_take (i := 14) (oi := ⟨some 99, .move (.tmp 6), 4, "parts.go:318", #[⟨13, .guard⟩], some (13, true)⟩) (v := .bool false) rfl (by kernel_rfl) (by kernel_rfl) (by kernel_rfl) (fun _ _ _ h => h) (Or.inl ⟨by rfl, fun w9 hS9 => ?_⟩) hH11 ?_
                · go_simp
                simp only [Act.put, List.setIfInBounds_toArray, List.set_cons_zero, List.set_cons_succ]
                refine wpAnyH_take (i := 15) (oi := ⟨some 100, .indexAddr 40 (.tmp 4) (.const (.int .i64 1)), 0, "parts.go:318", #[⟨13, .guard⟩], some (13, true)⟩) (v := .pointer (some ⟨V, 1, none⟩)) rfl (by kernel_rfl) (by kernel_rfl) (by kernel_rfl) (fun _ _ _ h => h) (Or.inl ⟨by rfl, fun w9 hS9 => ?_⟩) hH11 ?_
                · go_simp
                simp only [Act.put, List.setIfInBounds_toArray, List.set_cons_zero, List.set_cons_succ]
                refine wpAnyH_take (i := 16) (oi := ⟨some 101, .load 3 (.tmp 100), 3, "parts.go:318", #[⟨15, .data⟩, ⟨13, .guard⟩], some (13, true)⟩) (v := .int .i64 2) rfl (by kernel_rfl) (by kernel_rfl) (by kernel_rfl) (fun _ _ _ h => h) (Or.inl ⟨by rfl, fun w9 hS9 => ?_⟩) hH11 ?_
                · have g0 : w9.cell? ⟨V, 1, none⟩ = some (.int .i64 2) := (HSX.out.vb.below hS9 HSX.out.vb.lt).cell 1
                  go_simp
                simp only [Act.put, List.setIfInBounds_toArray, List.set_cons_zero, List.set_cons_succ]
                refine wpAnyH_take (i := 17) (oi := ⟨some 102, .binOp .eql 3 (.tmp 101) (.const (.int .i64 1)) 3, 4, "parts.go:318", #[⟨16, .data⟩, ⟨13, .guard⟩], some (13, true)⟩) (v := .bool false) rfl (by kernel_rfl) (by kernel_rfl) (by kernel_rfl) (fun _ _ _ h => h) (Or.inl ⟨by rfl, fun w9 hS9 => ?_⟩) hH11 ?_
                · go_simp
                simp only [Act.put, List.setIfInBounds_toArray, List.set_cons_zero, List.set_cons_succ]
                refine wpAnyH_take (i := 18) (oi := ⟨some 103, .binOp .eql 4 (.tmp 99) (.tmp 102) 4, 4, "parts.go:318", #[⟨14, .data⟩, ⟨17, .data⟩, ⟨13, .guard⟩], some (13, true)⟩) (v := .bool true) rfl (by kernel_rfl) (by kernel_rfl) (by kernel_rfl) (fun _ _ _ h => h) (Or.inl ⟨by rfl, fun w9 hS9 => ?_⟩) hH11 ?_
                · go_simp
                simp only [Act.put, List.setIfInBounds_toArray, List.set_cons_zero, List.set_cons_succ]
                refine wpAnyH_take (i := 19) (oi := ⟨some 104, .move (.tmp 103), 4, "parts.go:318", #[⟨18, .data⟩, ⟨13, .chain⟩, ⟨13, .guard⟩], some (13, true)⟩) (v := .bool true) rfl (by kernel_rfl) (by kernel_rfl) (by kernel_rfl) (fun _ _ _ h => h) (Or.inl ⟨by rfl, fun w9 hS9 => ?_⟩) hH11 ?_
                · go_simp
                simp only [Act.put, List.setIfInBounds_toArray, List.set_cons_zero, List.set_cons_succ]
                refine wpAnyH_take (i := 20) (oi := ⟨some 105, .move (.tmp 9), 24, "parts.go:318", #[⟨19, .guard⟩], some (19, false)⟩) (v := undef) rfl (by kernel_rfl) (by kernel_rfl) (by kernel_rfl) (fun _ _ _ h => h) (Or.inr ⟨by rfl, rfl⟩) hH11 ?_
                simp only [Act.put, List.setIfInBounds_toArray, List.set_cons_zero, List.set_cons_succ]
                refine wpAnyH_take (i := 21) (oi := ⟨some 106, .call { callee := .builtin .len, args := #[.tmp 105], argTypes := #[24] }, 3, "parts.go:318", #[⟨20, .data⟩, ⟨19, .guard⟩], some (19, false)⟩) (v := undef) rfl (by kernel_rfl) (by kernel_rfl) (by kernel_rfl) (fun _ _ _ h => h) (Or.inr ⟨by rfl, rfl⟩) hH11 ?_
                simp only [Act.put, List.setIfInBounds_toArray, List.set_cons_zero, List.set_cons_succ]
                refine wpAnyH_take (i := 22) (oi := ⟨some 107, .binOp .gtr 3 (.tmp 106) (.const (.int .i64 0)) 3, 4, "parts.go:318", #[⟨21, .data⟩, ⟨19, .guard⟩], some (19, false)⟩) (v := undef) rfl (by kernel_rfl) (by kernel_rfl) (by kernel_rfl) (fun _ _ _ h => h) (Or.inr ⟨by rfl, rfl⟩) hH11 ?_
                simp only [Act.put, List.setIfInBounds_toArray, List.set_cons_zero, List.set_cons_succ]
                refine wpAnyH_take (i := 23) (oi := ⟨some 108, .pick (.tmp 104) (.const (.bool true)) (.tmp 107), 4, "parts.go:318", #[⟨19, .data⟩, ⟨22, .data⟩, ⟨13, .guard⟩], some (13, true)⟩) (v := .bool true) rfl (by kernel_rfl) (by kernel_rfl) (by kernel_rfl) (fun _ _ _ h => h) (Or.inl ⟨by rfl, fun w9 hS9 => ?_⟩) hH11 ?_
                · go_simp
                simp only [Act.put, List.setIfInBounds_toArray, List.set_cons_zero, List.set_cons_succ]
                refine wpAnyH_take (i := 24) (oi := ⟨some 109, .pick (.tmp 98) (.tmp 108) (.const (.bool false)), 4, "parts.go:318", #[⟨13, .data⟩, ⟨23, .data⟩], none⟩) (v := .bool true) rfl (by kernel_rfl) (by kernel_rfl) (by kernel_rfl) (fun _ _ _ h => h) (Or.inl ⟨by rfl, fun w9 hS9 => ?_⟩) hH11 ?_
                · go_simp
                simp only [Act.put, List.setIfInBounds_toArray, List.set_cons_zero, List.set_cons_succ]
                refine wpAnyH_take (i := 25) (oi := ⟨some 2, .assign (.tmp 109), 4, "parts.go:318", #[⟨24, .data⟩, ⟨19, .chain⟩, ⟨0, .phase⟩, ⟨1, .phase⟩, ⟨2, .phase⟩, ⟨3, .phase⟩, ⟨4, .phase⟩, ⟨5, .phase⟩, ⟨6, .phase⟩, ⟨7, .phase⟩, ⟨8, .phase⟩, ⟨9, .phase⟩, ⟨10, .phase⟩, ⟨11, .phase⟩, ⟨12, .phase⟩, ⟨13, .phase⟩, ⟨14, .phase⟩, ⟨15, .phase⟩, ⟨16, .phase⟩, ⟨17, .phase⟩, ⟨18, .phase⟩, ⟨19, .phase⟩, ⟨20, .phase⟩, ⟨21, .phase⟩, ⟨22, .phase⟩, ⟨23, .phase⟩, ⟨24, .phase⟩], none⟩) (v := .bool true) rfl (by kernel_rfl) (by kernel_rfl) (by kernel_rfl) (fun _ _ _ h => h) (Or.inl ⟨by rfl, fun w9 hS9 => ?_⟩) hH11 ?_
                · go_simp
                simp only [Act.put, List.setIfInBounds_toArray, List.set_cons_zero, List.set_cons_succ]
                refine wpAnyH_done (by kernel_rfl) ?_ _
                go_wp2
                go_ret
                exact ⟨rfl, HSX.out.bel.trans (hH11.mono HSX.out.bel.size)⟩
              | true =>
                obtain rfl : a1 = 1 := e1
                go_upto_region 18 with fail
                refine wp_region_held_drew (S := fun w' => Below w8.heap.size w8 w') (by kernel_rfl) ((Below.refl _ w8).drew) (fun hH => ?_)
                refine wpAnyH_take (i := 0) (oi := ⟨some 85, .move (.tmp 12), 4, "parts.go:318", #[], none⟩) (v := .bool true) rfl (by kernel_rfl) (by kernel_rfl) (by kernel_rfl) (fun _ _ _ h => h) (Or.inl ⟨by rfl, fun w9 hS9 => ?_⟩) hH ?_
                · go_simp
                simp only [Act.put, List.setIfInBounds_toArray, List.set_cons_zero, List.set_cons_succ]
                refine wpAnyH_take (i := 1) (oi := ⟨some 86, .move (.tmp 85), 4, "parts.go:318", #[⟨0, .data⟩], none⟩) (v := .bool true) rfl (by kernel_rfl) (by kernel_rfl) (by kernel_rfl) (fun _ _ _ h => h) (Or.inl ⟨by rfl, fun w9 hS9 => ?_⟩) hH ?_
                · go_simp
                simp only [Act.put, List.setIfInBounds_toArray, List.set_cons_zero, List.set_cons_succ]
                refine wpAnyH_take (i := 2) (oi := ⟨some 87, .load 32 (.tmp 11), 32, "parts.go:318", #[⟨1, .guard⟩], some (1, true)⟩) (v := .agg ((h.wrx RA rc).wr A6 (tab L).length c6 2).arr) rfl (by kernel_rfl) (by kernel_rfl) (by kernel_rfl) (fun _ _ _ h => h) (Or.inl ⟨by rfl, fun w9 hS9 => ?_⟩) hH ?_
                · exact exec_load_row 32 (.tmp 11) rfl G rfl 32 ((h.wrx RA rc).wr A6 (tab L).length c6 2).arr (0, 0) _ (HG.out.below hS9 HG.out.lt) Tryz.underlying32 rfl ((h.wrx RA rc).wr A6 (tab L).length c6 2).size_
                simp only [Act.put, List.setIfInBounds_toArray, List.set_cons_zero, List.set_cons_succ]
                refine wpAnyH_take (i := 3) (oi := ⟨some 88, .load 32 (.tmp 3), 32, "parts.go:318", #[⟨1, .guard⟩], some (1, true)⟩) (v := .agg (h.wrx RA rc).arr) rfl (by kernel_rfl) (by kernel_rfl) (by kernel_rfl) (fun _ _ _ h => h) (Or.inl ⟨by rfl, fun w9 hS9 => ?_⟩) hH ?_
                · exact exec_load_row 32 (.tmp 3) rfl X rfl 32 (h.wrx RA rc).arr (0, 0) _ (HSX.out.bx.below hS9 HSX.out.bx.lt) Tryz.underlying32 rfl (h.wrx RA rc).size_
                simp only [Act.put, List.setIfInBounds_toArray, List.set_cons_zero, List.set_cons_succ]
                refine wpAnyH_ready (rs := [4]) (by kernel_rfl) (by simp) ?_
                refine AllReadyH.cons (o := ⟨some 89, .call { callee := .value (.func 14), args := #[.tmp 87, .tmp 88], argTypes := #[32, 32] }, 4, "parts.go:318", #[⟨2, .data⟩, ⟨3, .data⟩, ⟨1, .chain⟩, ⟨1, .guard⟩], some (1, true)⟩) rfl (fun K9 hK9 => ?_) (AllReadyH.nil)
                go_simp
                refine (specSame (h.wrx RA rc) A6 (tab L).length c6 2 _).mono ?_
                rintro e wq1 ⟨rfl, hbo1⟩
                refine hK9.out _ _ (hH.trans (hbo1.mono hH.size)) (fun hH4 => ?_)
                clear hK9 K9
                try simp only [Act.put, List.setIfInBounds_toArray, List.set_cons_zero, List.set_cons_succ]
                refine wpAnyH_take (i := 5) (oi := ⟨some 90, .pick (.tmp 86) (.tmp 89) (.const (.bool false)), 4, "parts.go:318", #[⟨1, .data⟩, ⟨4, .data⟩], none⟩) (v := .bool true) rfl (by kernel_rfl) (by kernel_rfl) (by kernel_rfl) (fun _ _ _ h => h) (Or.inl ⟨by rfl, fun w9 hS9 => ?_⟩) hH4 ?_
                · go_simp
                simp only [Act.put, List.setIfInBounds_toArray, List.set_cons_zero, List.set_cons_succ]
                refine wpAnyH_take (i := 6) (oi := ⟨some 91, .move (.tmp 90), 4, "parts.go:318", #[⟨5, .data⟩, ⟨4, .chain⟩], none⟩) (v := .bool true) rfl (by kernel_rfl) (by kernel_rfl) (by kernel_rfl) (fun _ _ _ h => h) (Or.inl ⟨by rfl, fun w9 hS9 => ?_⟩) hH4 ?_
                · go_simp
                simp only [Act.put, List.setIfInBounds_toArray, List.set_cons_zero, List.set_cons_succ]
                refine wpAnyH_take (i := 7) (oi := ⟨some 92, .move (.tmp 9), 24, "parts.go:318", #[⟨6, .guard⟩], some (6, true)⟩) (v := .slice A5 (tab L).length c5) rfl (by kernel_rfl) (by kernel_rfl) (by kernel_rfl) (fun _ _ _ h => h) (Or.inl ⟨by rfl, fun w9 hS9 => ?_⟩) hH4 ?_
                · go_simp
                simp only [Act.put, List.setIfInBounds_toArray, List.set_cons_zero, List.set_cons_succ]
                refine wpAnyH_take (i := 9) (oi := ⟨some 94, .fieldAddr 32 (.tmp 3) 16, 0, "parts.go:318", #[⟨6, .guard⟩], some (6, true)⟩) (v := .pointer (some ⟨X, 19, none⟩)) rfl (by kernel_rfl) (by kernel_rfl) (by kernel_rfl) (fun _ _ _ h => h) (Or.inl ⟨by rfl, fun w9 hS9 => ?_⟩) hH4 ?_
                · go_simp
                simp only [Act.put, List.setIfInBounds_toArray, List.set_cons_zero, List.set_cons_succ]
                refine wpAnyH_take (i := 10) (oi := ⟨some 95, .load 30 (.tmp 94), 30, "parts.go:318", #[⟨9, .data⟩, ⟨6, .guard⟩], some (6, true)⟩) (v := .slice RA h.rn rc) rfl (by kernel_rfl) (by kernel_rfl) (by kernel_rfl) (fun _ _ _ h => h) (Or.inl ⟨by rfl, fun w9 hS9 => ?_⟩) hH4 ?_
                · have g0 : w9.cell? ⟨X, 19, none⟩ = some (.slice RA h.rn rc) := (HSX.out.bx.below hS9 HSX.out.bx.lt).cell 19
                  go_simp
                simp only [Act.put, List.setIfInBounds_toArray, List.set_cons_zero, List.set_cons_succ]
                refine wpAnyH_ready (rs := [8]) (by kernel_rfl) (by simp) ?_
                refine AllReadyH.cons (o := ⟨some 93, .call { callee := .value (.func 13), args := #[.tmp 92], argTypes := #[24] }, 30, "parts.go:318", #[⟨7, .data⟩, ⟨6, .chain⟩, ⟨6, .guard⟩], some (6, true)⟩) rfl (fun K9 hK9 => ?_) (AllReadyH.nil)
                go_simp
                refine (HREC.out _ hH4).mono ?_
                rintro e wq2 ⟨vr, rfl, hown, hbo2⟩
                obtain ⟨A9, c9, rfl, _, _, _⟩ := own_form hown
                have HR9 := Lib.hid (RC.of_own hown)
                clear hown
                refine hK9.out _ _ (hH4.trans (hbo2.mono hH4.size)) (fun hH10 => ?_)
                clear hK9 K9
                try simp only [Act.put, List.setIfInBounds_toArray, List.set_cons_zero, List.set_cons_succ]
                refine wpAnyH_ready (rs := [11]) (by kernel_rfl) (by simp) ?_
                refine AllReadyH.cons (o := ⟨some 96, .call { callee := .value (.func 15), args := #[.tmp 93, .tmp 95], argTypes := #[30, 30] }, 4, "parts.go:318", #[⟨8, .data⟩, ⟨10, .data⟩, ⟨8, .chain⟩, ⟨6, .guard⟩], some (6, true)⟩) rfl (fun K9 hK9 => ?_) (AllReadyH.nil)
                go_simp
                refine (HHAS.out wq2 A9 c9 hH10 HR9.out).mono ?_
                rintro e wq3 ⟨rfl, hbo3⟩
                refine hK9.out _ _ (hH10.trans (hbo3.mono hH10.size)) (fun hH11 => ?_)
                clear hK9 K9
                try simp only [Act.put, List.setIfInBounds_toArray, List.set_cons_zero, List.set_cons_succ]
                refine wpAnyH_take (i := 12) (oi := ⟨some 97, .pick (.tmp 91) (.tmp 96) (.const (.bool false)), 4, "parts.go:318", #[⟨6, .data⟩, ⟨11, .data⟩], none⟩) (v := .bool true) rfl (by kernel_rfl) (by kernel_rfl) (by kernel_rfl) (fun _ _ _ h => h) (Or.inl ⟨by rfl, fun w9 hS9 => ?_⟩) hH11 ?_
                · go_simp
                simp only [Act.put, List.setIfInBounds_toArray, List.set_cons_zero, List.set_cons_succ]
                refine wpAnyH_take (i := 13) (oi := ⟨some 98, .move (.tmp 97), 4, "parts.go:318", #[⟨12, .data⟩, ⟨11, .chain⟩], none⟩) (v := .bool true) rfl (by kernel_rfl) (by kernel_rfl) (by kernel_rfl) (fun _ _ _ h => h) (Or.inl ⟨by rfl, fun w9 hS9 => ?_⟩) hH11 ?_
                · go_simp
                simp only [Act.put, List.setIfInBounds_toArray, List.set_cons_zero, List.set_cons_succ]
                refine wpAnyH_take (i := 14) (oi := ⟨some 99, .move (.tmp 6), 4, "parts.go:318", #[⟨13, .guard⟩], some (13, true)⟩) (v := .bool true) rfl (by kernel_rfl) (by kernel_rfl) (by kernel_rfl) (fun _ _ _ h => h) (Or.inl ⟨by rfl, fun w9 hS9 => ?_⟩) hH11 ?_
                · go_simp
                simp only [Act.put, List.setIfInBounds_toArray, List.set_cons_zero, List.set_cons_succ]
                refine wpAnyH_take (i := 15) (oi := ⟨some 100, .indexAddr 40 (.tmp 4) (.const (.int .i64 1)), 0, "parts.go:318", #[⟨13, .guard⟩], some (13, true)⟩) (v := .pointer (some ⟨V, 1, none⟩)) rfl (by kernel_rfl) (by kernel_rfl) (by kernel_rfl) (fun _ _ _ h => h) (Or.inl ⟨by rfl, fun w9 hS9 => ?_⟩) hH11 ?_
                · go_simp
                simp only [Act.put, List.setIfInBounds_toArray, List.set_cons_zero, List.set_cons_succ]
                refine wpAnyH_take (i := 16) (oi := ⟨some 101, .load 3 (.tmp 100), 3, "parts.go:318", #[⟨15, .data⟩, ⟨13, .guard⟩], some (13, true)⟩) (v := .int .i64 1) rfl (by kernel_rfl) (by kernel_rfl) (by kernel_rfl) (fun _ _ _ h => h) (Or.inl ⟨by rfl, fun w9 hS9 => ?_⟩) hH11 ?_
                · have g0 : w9.cell? ⟨V, 1, none⟩ = some (.int .i64 1) := (HSX.out.vb.below hS9 HSX.out.vb.lt).cell 1
                  go_simp
                simp only [Act.put, List.setIfInBounds_toArray, List.set_cons_zero, List.set_cons_succ]
                refine wpAnyH_take (i := 17) (oi := ⟨some 102, .binOp .eql 3 (.tmp 101) (.const (.int .i64 1)) 3, 4, "parts.go:318", #[⟨16, .data⟩, ⟨13, .guard⟩], some (13, true)⟩) (v := .bool true) rfl (by kernel_rfl) (by kernel_rfl) (by kernel_rfl) (fun _ _ _ h => h) (Or.inl ⟨by rfl, fun w9 hS9 => ?_⟩) hH11 ?_
                · go_simp
                simp only [Act.put, List.setIfInBounds_toArray, List.set_cons_zero, List.set_cons_succ]
                refine wpAnyH_take (i := 18) (oi := ⟨some 103, .binOp .eql 4 (.tmp 99) (.tmp 102) 4, 4, "parts.go:318", #[⟨14, .data⟩, ⟨17, .data⟩, ⟨13, .guard⟩], some (13, true)⟩) (v := .bool true) rfl (by kernel_rfl) (by kernel_rfl) (by kernel_rfl) (fun _ _ _ h => h) (Or.inl ⟨by rfl, fun w9 hS9 => ?_⟩) hH11 ?_
                · go_simp
                simp only [Act.put, List.setIfInBounds_toArray, List.set_cons_zero, List.set_cons_succ]
                refine wpAnyH_take (i := 19) (oi := ⟨some 104, .move (.tmp 103), 4, "parts.go:318", #[⟨18, .data⟩, ⟨13, .chain⟩, ⟨13, .guard⟩], some (13, true)⟩) (v := .bool true) rfl (by kernel_rfl) (by kernel_rfl) (by kernel_rfl) (fun _ _ _ h => h) (Or.inl ⟨by rfl, fun w9 hS9 => ?_⟩) hH11 ?_
                · go_simp
                simp only [Act.put, List.setIfInBounds_toArray, List.set_cons_zero, List.set_cons_succ]
                refine wpAnyH_take (i := 20) (oi := ⟨some 105, .move (.tmp 9), 24, "parts.go:318", #[⟨19, .guard⟩], some (19, false)⟩) (v := undef) rfl (by kernel_rfl) (by kernel_rfl) (by kernel_rfl) (fun _ _ _ h => h) (Or.inr ⟨by rfl, rfl⟩) hH11 ?_
                simp only [Act.put, List.setIfInBounds_toArray, List.set_cons_zero, List.set_cons_succ]
                refine wpAnyH_take (i := 21) (oi := ⟨some 106, .call { callee := .builtin .len, args := #[.tmp 105], argTypes := #[24] }, 3, "parts.go:318", #[⟨20, .data⟩, ⟨19, .guard⟩], some (19, false)⟩) (v := undef) rfl (by kernel_rfl) (by kernel_rfl) (by kernel_rfl) (fun _ _ _ h => h) (Or.inr ⟨by rfl, rfl⟩) hH11 ?_
                simp only [Act.put, List.setIfInBounds_toArray, List.set_cons_zero, List.set_cons_succ]
                refine wpAnyH_take (i := 22) (oi := ⟨some 107, .binOp .gtr 3 (.tmp 106) (.const (.int .i64 0)) 3, 4, "parts.go:318", #[⟨21, .data⟩, ⟨19, .guard⟩], some (19, false)⟩) (v := undef) rfl (by kernel_rfl) (by kernel_rfl) (by kernel_rfl) (fun _ _ _ h => h) (Or.inr ⟨by rfl, rfl⟩) hH11 ?_
                simp only [Act.put, List.setIfInBounds_toArray, List.set_cons_zero, List.set_cons_succ]
                refine wpAnyH_take (i := 23) (oi := ⟨some 108, .pick (.tmp 104) (.const (.bool true)) (.tmp 107), 4, "parts.go:318", #[⟨19, .data⟩, ⟨22, .data⟩, ⟨13, .guard⟩], some (13, true)⟩) (v := .bool true) rfl (by kernel_rfl) (by kernel_rfl) (by kernel_rfl) (fun _ _ _ h => h) (Or.inl ⟨by rfl, fun w9 hS9 => ?_⟩) hH11 ?_
                · go_simp
                simp only [Act.put, List.setIfInBounds_toArray, List.set_cons_zero, List.set_cons_succ]
                refine wpAnyH_take (i := 24) (oi := ⟨some 109, .pick (.tmp 98) (.tmp 108) (.const (.bool false)), 4, "parts.go:318", #[⟨13, .data⟩, ⟨23, .data⟩], none⟩) (v := .bool true) rfl (by kernel_rfl) (by kernel_rfl) (by kernel_rfl) (fun _ _ _ h => h) (Or.inl ⟨by rfl, fun w9 hS9 => ?_⟩) hH11 ?_
                · go_simp
                simp only [Act.put, List.setIfInBounds_toArray, List.set_cons_zero, List.set_cons_succ]
                refine wpAnyH_take (i := 25) (oi := ⟨some 2, .assign (.tmp 109), 4, "parts.go:318", #[⟨24, .data⟩, ⟨19, .chain⟩, ⟨0, .phase⟩, ⟨1, .phase⟩, ⟨2, .phase⟩, ⟨3, .phase⟩, ⟨4, .phase⟩, ⟨5, .phase⟩, ⟨6, .phase⟩, ⟨7, .phase⟩, ⟨8, .phase⟩, ⟨9, .phase⟩, ⟨10, .phase⟩, ⟨11, .phase⟩, ⟨12, .phase⟩, ⟨13, .phase⟩, ⟨14, .phase⟩, ⟨15, .phase⟩, ⟨16, .phase⟩, ⟨17, .phase⟩, ⟨18, .phase⟩, ⟨19, .phase⟩, ⟨20, .phase⟩, ⟨21, .phase⟩, ⟨22, .phase⟩, ⟨23, .phase⟩, ⟨24, .phase⟩], none⟩) (v := .bool true) rfl (by kernel_rfl) (by kernel_rfl) (by kernel_rfl) (fun _ _ _ h => h) (Or.inl ⟨by rfl, fun w9 hS9 => ?_⟩) hH11 ?_
                · go_simp
                simp only [Act.put, List.setIfInBounds_toArray, List.set_cons_zero, List.set_cons_succ]
                refine wpAnyH_done (by kernel_rfl) ?_ _
                go_wp2
                go_ret
                exact ⟨rfl, HSX.out.bel.trans (hH11.mono HSX.out.bel.size)⟩
end Go.Proofs.YtepeehjajhehfaaGreatDoor
