/- Walks for FnSparseRead: spec.Expand. -/
import Derived.Test.YtiahifohkhdmdaaDoorSpWalk
namespace Go.Proofs.YtiahifohkhdmdaaDoor
open Go.RowKit Go.PlainAid
set_option linter.unusedVariables false

theorem splice_gap {P X : List UInt8} {a d l m : Nat} (hP : P.length = a) (hX : X.length = l) (hm : d + l ≤ m) : splice (P ++ zbs m) (a + d) X = P ++ (zbs d ++ X) ++ zbs (m - (d + l)) := by
  have h1 : P ++ zbs m = (P ++ zbs d).take (a + d) ++ zbs (m - d) := by
    rw [List.take_of_length_le (by rw [List.length_append, length_zbs]; omega), List.append_assoc, ← zbs_add]
    congr 2
    omega
  rw [h1, splice_at (by rw [List.length_append, length_zbs]; omega) hX (by omega), List.take_of_length_le (by rw [List.length_append, length_zbs]; omega)]
  rw [show m - d - l = m - (d + l) by omega]
  simp [List.append_assoc]

/-- What Expand has done behind k pieces. -/
structure ExAt (B G S : Nat) (ps : List (Int × Int)) (D : List UInt8) (k : Nat) (w : World) (data : Value) (wr : World) : Prop where
  blk : Blk wr G 5 (bys (xpre ps D k ++ zbs (S - (ve ps k).toNat)))
  src : ∃ A m c, data = .slice A m c ∧ m + lenQ (ps.take k) = D.length ∧ m ≤ c ∧ RB wr B A (D.drop (lenQ (ps.take k)))
  bel : Below w.heap.size w wr

set_option maxRecDepth 20000 in
set_option maxHeartbeats 4000000 in
theorem specExpand (A Ad : Option Addr) (n c nd cd S : Nat) (ps : List (Int × Int)) (D : List UInt8) (w : World) (hn : ps.length = n) (hr : RC w w.heap.size A (pcs ps)) (hD : D.length = nd) (hrd : RB w w.heap.size Ad D) (hcd : nd ≤ cd) (hl : lenQ ps = nd) (hbig : n ≤ 1000)
    (hok : ∀ j, j < ps.length → ve ps j ≤ po ps j ∧ 1 ≤ pl ps j) (he : ve ps ps.length ≤ (S : Int)) (hs : S ≤ 1099511627776) (hnd : nd ≤ 1099511627776) :
    Calls Tryd.prog 15 #[.int .i64 S, .slice A n c, .slice Ad nd cd] w fun e w' => e = .returned (.slice (some ⟨w.heap.size, 0, none⟩) S S) ∧ Blk w' w.heap.size 5 (bys (expd S ps 0 D)) ∧ Below w.heap.size w w' := by
  have HN := Lib.hid hn
  have HR := Lib.hid hr
  have HV := Lib.hid (ve_range hok he)
  have HOK := Lib.hid hok
  have HD := Lib.hid hD
  have HL := Lib.hid hl
  have HRD := Lib.hid hrd
  have HLX := Lib.hid (fun k hk => length_xpre ps D hok (by omega) k hk)
  clear hn hr hok he hD hrd hl
  go_enter Tryd.func15, Tryd.ntmps15
  go_wp2_with (refine wpList_make_blk _ (o := ⟨some 11, _, _, _, _, _⟩) rfl _ _ _ rfl 5 _ 1 Tryd.underlying23 u8info rfl _ _ S S S rfl rfl rfl rfl (by omega) (by omega) ?_)
  intro w1 hb1 hg1 hz1
  rw [← bys_zbs] at hb1
  have HST : Hid (ExAt w.heap.size w.heap.size S ps D 0 w (.slice Ad nd cd) w1) := Lib.hid ⟨by simpa [xpre, ve] using hb1.out, ⟨Ad, nd, cd, rfl, by simp [lenQ, HD.out], hcd, by simpa [lenQ] using HRD.out.below (grownBy_below hg1 (Nat.le_refl _) (fun k hk => by cases hk))⟩, grownBy_below hg1 (Nat.le_refl _) (fun k hk => by cases hk)⟩
  clear hb1 hg1 hz1
  go_wp2_with fail
  go_loopw [2, 14] (fun data i wr => ∃ k : Nat, k ≤ n ∧ i = .int .i64 k ∧ ExAt w.heap.size w.heap.size S ps D k w data wr) (fun _ i _ => n - (intOf i).toNat)
  case atStart => exact ⟨0, by omega, rfl, HST.out⟩
  case round =>
    obtain ⟨k, hk, rfl, hat⟩ := hrel
    obtain ⟨A1, m, c1, rfl, hm, hc1, hr1⟩ := hat.src
    have HB := Lib.hid hat.bel
    have HG := Lib.hid hat.blk
    have HRB := Lib.hid hr1
    obtain ⟨v1, v2⟩ := HV.out k (by rw [HN.out]; exact hk)
    by_cases hlt : k < n
    · obtain ⟨b, off, rfl, hbB, hp1, hp2⟩ := (HR.out.below hat.bel).piece (k := k) (by rw [HN.out]; exact hlt)
      obtain ⟨o1, o2⟩ := HOK.out k (by rw [HN.out]; exact hlt)
      obtain ⟨v3, v4⟩ := HV.out (k + 1) (by rw [HN.out]; omega)
      have v5 : ve ps (k + 1) = po ps k + pl ps k := rfl
      have hx := HLX.out k (by rw [HN.out]; exact hk)
      have hlq := lenQ_take ps k (by rw [HN.out]; exact hlt)
      have hlq2 : lenQ (ps.take (k + 1)) ≤ lenQ ps := by
        have := lenQ_app (ps.take (k + 1)) (ps.drop (k + 1))
        rw [List.take_append_drop] at this
        omega
      rw [v5] at v3 v4
      obtain ⟨o, ho⟩ : ∃ o : Nat, po ps k = (o : Int) := ⟨(po ps k).toNat, by omega⟩
      obtain ⟨l, hl⟩ : ∃ l : Nat, pl ps k = (l : Int) := ⟨(pl ps k).toNat, by omega⟩
      obtain ⟨a, ha⟩ : ∃ a : Nat, ve ps k = (a : Int) := ⟨(ve ps k).toNat, by omega⟩
      obtain ⟨L, hL⟩ : ∃ L, lenQ (ps.take k) = L := ⟨_, rfl⟩
      rw [ho] at hp1
      rw [hl] at hp2
      rw [hL] at hm hr1 hlq
      have hnD := HD.out
      have hlQ := HL.out
      have j1 : a ≤ o := by omega
      have j2 : o + l ≤ S := by omega
      have j3 : 1 ≤ l := by omega
      have j4 : l ≤ m := by omega
      have hDL : (D.drop L).length = m := by rw [List.length_drop]; omega
      obtain ⟨db, dof, rfl, hdb, hdc⟩ := hr1 (by omega)
      have hg := hat.blk
      rw [ha] at hg
      simp only [Int.toNat_natCast] at hg
      have HG1 := Lib.hid (hg.alloc (.cells #[.int .i64 o, .int .i64 l] 47))
      have HB1 := Lib.hid (HB.out.alloc (o := .cells #[.int .i64 o, .int .i64 l] 47) hat.bel.size)
      have HRB1 := Lib.hid (hr1.alloc hat.bel.size (.cells #[.int .i64 o, .int .i64 l] 47))
      have HC1 := Lib.hid (Blk.new wr 47 [.int .i64 o, .int .i64 l])
      have hwr : w.heap.size < wr.heap.size := hg.lt
      have hxa : (xpre ps D k).length = a := by omega
      have HX : Hid (splice (xpre ps D k ++ zbs (S - a)) o ((D.drop L).take l) = xpre ps D (k + 1) ++ zbs (S - (ve ps (k + 1)).toNat)) := Lib.hid (by
        have h1 := splice_gap (P := xpre ps D k) (X := (D.drop L).take l) (a := a) (d := o - a) (l := l) (m := S - a) hxa (by rw [List.length_take, List.length_drop]; omega) (by omega)
        rw [show a + (o - a) = o by omega] at h1
        rw [h1, v5, ho, hl]
        simp only [xpre, ho, hl, ha, hL, Int.toNat_natCast]
        rw [show ((o : Int) - (a : Int)).toNat = o - a by omega, show S - a - (o - a + l) = S - ((o : Int) + (l : Int)).toNat by omega])
      have HLEN : Hid (((D.drop L).take l).length = l) := Lib.hid (by rw [List.length_take, List.length_drop]; omega)
      have HFIT : Hid (o + l ≤ (xpre ps D k ++ zbs (S - a)).length) := Lib.hid (by rw [List.length_append, length_zbs]; omega)
      have HL2 : Hid (lenQ (ps.take (k + 1)) = L + l) := Lib.hid (by rw [hlq, hl]; rfl)
      have HM := Lib.hid hm
      clear hat hr1 hg hx hlq hlq2 hnD hlQ hxa o1 o2 v1 v2 v3 v4 v5 ho hl ha hL hm
      go_upto_region 5 with fail
      generalize wr.alloc (.cells #[.int .i64 o, .int .i64 l] 47) = w2 at HG1 HB1 HRB1 HC1 ⊢
      generalize hpb : wr.heap.size = pb at HC1 hwr ⊢
      have HPB := Lib.hid hpb
      clear hpb
      have c0 : w2.cell? ⟨pb, 0, none⟩ = some (.int .i64 o) := by rw [HC1.out.cell]; rfl
      have c1' : w2.cell? ⟨pb, 1, none⟩ = some (.int .i64 l) := by rw [HC1.out.cell]; rfl
      have y1 : (0 : Int) ≤ (o : Int) := by omega
      have y2 : (o : Int) ≤ (o : Int) + (l : Int) := by omega
      have y3 : (o : Int) + (l : Int) ≤ (S : Int) := by omega
      have y4 : (l : Int) ≤ (m : Int) := by omega
      have y5 : (l : Int) ≤ (c1 : Int) := by omega
      have y6 : ¬ S = o := by omega
      have y7 : IntKind.i64.wrap ((o : Int) + (l : Int)) = (o : Int) + (l : Int) := IntWalk.i64_in _ (by omega)
      have y8 : (0 : Int) ≤ (o : Int) + (l : Int) := by omega
      go_region_held3 (fun w' => w'.cell? ⟨pb, 0, none⟩ = some (.int .i64 o) ∧ w'.cell? ⟨pb, 1, none⟩ = some (.int .i64 l)) (go_keep)
        ((refine step_copy_bytes rfl (.tmp 26) (.tmp 30) 23 23 rfl 5 Tryd.underlying23 u8size w.heap.size o l (S - o) l c1 (some ⟨db, dof, none⟩) (by simp [Act.eval]; omega) (by simp [Act.eval]) _ ((D.drop L).take l) 5 w.heap.size HG1.out HLEN.out (HRB1.out.take l) (Nat.le_refl _) j3 HFIT.out ?_; intro w4 hg4 hb4; have c5 : w4.cell? ⟨pb, 0, none⟩ = some (.int .i64 o) := (hb4.out.cell (p := ⟨pb, 0, none⟩) HC1.out.lt (by simp; omega)).trans c0; have c6 : w4.cell? ⟨pb, 1, none⟩ = some (.int .i64 l) := (hb4.out.cell (p := ⟨pb, 1, none⟩) HC1.out.lt (by simp; omega)).trans c1'))
      have HFR := Lib.hid (((Far.refl [w.heap.size] w2).drew).trans hb4.out)
      have HG4 : Hid (Blk w4 w.heap.size 5 (bys (xpre ps D (k + 1) ++ zbs (S - (ve ps (k + 1)).toNat)))) := Lib.hid (by have := hg4.out; rw [List.take_of_length_le (by rw [HLEN.out]; exact Nat.le_refl _), HX.out] at this; exact this)
      have HBW := Lib.hid (HB1.out.trans (HFR.out.below (B := w.heap.size) (by simp) (by have := HB1.out.size; omega)))
      have HSRC : Hid (RB w4 w.heap.size (some ⟨db, dof, none⟩) (D.drop L)) := Lib.hid (HRB1.out.below (HFR.out.below (B := w.heap.size) (by simp) (by have := HB1.out.size; omega)))
      have HNEXT : Hid (∀ A' c', (l < m → A' = some ⟨db, dof + l, none⟩) → m - l ≤ c' → ExAt w.heap.size w.heap.size S ps D (k + 1) w (.slice A' (m - l) c') w4) := by
        show ∀ A' c', _
        intro A' c' hA hc'
        refine ⟨HG4.out, ⟨A', m - l, c', rfl, by rw [HL2.out]; have := HM.out; omega, hc', fun hp => ?_⟩, HBW.out⟩
        have hp' : l < m := by rw [HL2.out, List.length_drop] at hp; have := HM.out; omega
        obtain rfl := hA hp'
        obtain ⟨b', o', hA', hb', hc''⟩ := HSRC.out (by rw [List.length_drop]; have := HM.out; omega)
        injection hA' with hA'
        injection hA' with e1 e2
        subst e1 e2
        refine ⟨db, dof + l, rfl, hb', fun i hi => ?_⟩
        rw [HL2.out, List.length_drop] at hi
        have h9 := hc'' (l + i) (by rw [List.length_drop]; omega)
        rw [Nat.add_assoc, h9]
        simp [byt, List.getD, List.getElem?_drop, HL2.out, Nat.add_assoc]
      clear hg4 hb4 c0 c1' c5
      by_cases hcap : c1 = l
      all_goals
        go_wp2
        go_roundw
        case rel => exact ⟨k + 1, by omega, by go_num, HNEXT.out _ _ (by intro h; first | rfl | omega) (by omega)⟩
        case measure => simp [intOf]; omega
    · obtain rfl : k = n := by omega
      have HE : Hid (Blk wr w.heap.size 5 (bys (expd S ps 0 D))) := Lib.hid (by
        have h1 := HG.out
        rw [← HN.out] at h1
        have h2 := xpre_end S ps D
        have h3 := HV.out ps.length (Nat.le_refl _)
        rw [show ((S : Int) - ve ps ps.length).toNat = S - (ve ps ps.length).toNat by omega] at h2
        rwa [h2] at h1)
      clear hat hr1
      go_wp2
      go_ret
      exact ⟨rfl, HE.out, HB.out⟩
end Go.Proofs.YtiahifohkhdmdaaDoor
