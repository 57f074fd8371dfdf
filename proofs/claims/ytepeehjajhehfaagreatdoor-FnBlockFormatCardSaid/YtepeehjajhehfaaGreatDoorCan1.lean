/- spec.Can at format 1: its walk. -/
import Derived.Test.YtepeehjajhehfaaGreatDoorBsl
import Derived.Test.YtepeehjajhehfaaGreatDoorSpl
namespace Go.Proofs.YtepeehjajhehfaaGreatDoor
open Go.RowKit Go.PlainAid
set_option linter.unusedVariables false

theorem all3d_1 (w : World) (T : TypeId) (x1 x2 x3 : Int) : Calls Tryz.prog 23 #[.slice (some ⟨w.heap.size, 0, none⟩) 3 3] (w.alloc (.cells #[.int .i64 x1, .int .i64 x2, .int .i64 x3] T)).drew fun e w' => e = .returned (.int .i64 (allV [x1, x2, x3])) ∧ (w.alloc (.cells #[.int .i64 x1, .int .i64 x2, .int .i64 x3] T)).drew = w' := all3 w.drew T x1 x2 x3
theorem all6d_1 (w : World) (T : TypeId) (x1 x2 x3 x4 x5 x6 : Int) : Calls Tryz.prog 23 #[.slice (some ⟨w.heap.size, 0, none⟩) 6 6] (w.alloc (.cells #[.int .i64 x1, .int .i64 x2, .int .i64 x3, .int .i64 x4, .int .i64 x5, .int .i64 x6] T)).drew fun e w' => e = .returned (.int .i64 (allV [x1, x2, x3, x4, x5, x6])) ∧ (w.alloc (.cells #[.int .i64 x1, .int .i64 x2, .int .i64 x3, .int .i64 x4, .int .i64 x5, .int .i64 x6] T)).drew = w' := all6 w.drew T x1 x2 x3 x4 x5 x6
set_option maxRecDepth 20000 in
set_option maxHeartbeats 60000000 in
theorem specCan1 (K : CanKit 1) (h : Hd) (rs : List (ByteArray × ByteArray)) (w : World) (hr : h.Recs w.heap.size rs w) (ok : h.Ok) (hlive : 0 < h.rn → K.live) (hn1 : h.name.size ≤ 4611686018427387903) :
    Calls Tryz.prog 7 #[h.val, .int .i64 1] w (CanP K h rs w) := by
  have HR := Lib.hid hr
  have OK := Lib.hid ok
  have HLV := Lib.hid hlive
  have HB0 : Hid (Blk (w.alloc (.cells h.arr 32)) w.heap.size 32 h.cells) := Lib.hid (h.blk w _)
  have HW0 : Hid (Below w.heap.size w (w.alloc (.cells h.arr 32))) := Lib.hid ((Below.refl _ _).alloc (Nat.le_refl _) _)
  have HST : Hid (∀ w1, Below w.heap.size w w1 → Calls Tryz.prog 17 #[.agg h.arr] w1 (StrangeP h w1)) := Lib.hid (fun w1 hb => specStrange h w.heap.size rs w1 (hr.below hb (Nat.le_refl _)) hb.size)
  have HPM : Hid (∀ w1, Calls Tryz.prog 18 #[.agg h.arr] w1 fun e w' => e = .returned (.agg h.prom.arr) ∧ Below w1.heap.size w1 w') := Lib.hid (fun w1 => specProm h w1 ok.name)
  unfold Hd.val
  clear hr ok hlive
  have HN1 := Lib.hid hn1
  clear hn1
  go_enter Tryz.func7, Tryz.ntmps7
  go_upto_region 1 with fail
  generalize w.alloc (.cells h.arr 32) = w1 at HB0 HW0 ⊢
  obtain ⟨H, hH⟩ : ∃ H, w.heap.size = H := ⟨_, rfl⟩
  rw [hH] at HB0
  rw [hH]
  have HH := Lib.hid hH
  clear hH
  go_wp2_with (refine wpList_load_row (o := ⟨some 9, _, _, _, _, _⟩) rfl 32 (.tmp 2) rfl H rfl 32 h.arr (0, 0) _ HB0.out Tryz.underlying32 rfl h.size_ ?_)
  refine (HST.out w1 HW0.out).mono ?_
  rintro e w2 ⟨b, rfl, hns, hb2⟩
  have HNS := Lib.hid hns
  have HB2 : Hid (Blk w2 H 32 h.cells) := Lib.hid (HB0.out.below hb2 HB0.out.lt)
  have HW2 : Hid (Below w.heap.size w w2) := Lib.hid (HW0.out.trans (hb2.mono HW0.out.size))
  clear hns hb2
  cases b with
  | true =>
    go_wp2
    go_ret
    exact ⟨0, rfl, .inl rfl, HW2.out⟩
  | false =>
  have HNT : Hid (NotStrange h) := Lib.hid (HNS.out rfl)
  go_wp2_with (refine wpList_load_row (o := ⟨some 11, _, _, _, _, _⟩) rfl 32 (.tmp 2) rfl H rfl 32 h.arr (0, 0) _ HB2.out Tryz.underlying32 rfl h.size_ ?_)
  refine (HPM.out w2).mono ?_
  rintro e w3 ⟨rfl, hb3⟩
  have HB3 : Hid (Blk w3 H 32 h.cells) := Lib.hid (HB2.out.below hb3 HB2.out.lt)
  have HW3 : Hid (Below w.heap.size w w3) := Lib.hid (HW2.out.trans (hb3.mono HW2.out.size))
  clear hb3
  go_upto_region 5 with (refine wpList_store_row (o := ⟨none, _, _, _, _, _⟩) rfl 32 (.tmp 2) (.tmp 12) rfl H h.prom.arr rfl rfl 32 h.arr HB3.out h.prom.size_ rfl h.prom.one_ ?_; have HB4 : Hid (Blk (w3.setRow H h.prom.arr) H 32 h.prom.cells) := Lib.hid (setRow_blk w3 H 32 h.cells h.prom.cells HB3.out); have HW4 : Hid (Below w.heap.size w (w3.setRow H h.prom.arr)) := Lib.hid (HW3.out.grown (setRow_grown w3 H h.prom.arr) HW3.out.size (fun q hq => by cases hq; exact Nat.le_of_eq HH.out)); generalize w3.setRow H h.prom.arr = w4 at HB4 HW4 ⊢; simp only [Act.put])
  clear HB2 HW2 HB3 HW3 HST HPM
  obtain ⟨t, ht⟩ : ∃ t, h.prom.ty = t := ⟨_, rfl⟩
  obtain ⟨N, hN⟩ : ∃ t, h.name = t := ⟨_, rfl⟩
  obtain ⟨L, hL⟩ : ∃ t, h.link = t := ⟨_, rfl⟩
  have HT := Lib.hid ht
  have HN := Lib.hid hN
  have HL := Lib.hid hL
  have t0 : ¬ t = 0 := by rw [← ht]; exact prom_ty h
  have t00 : (t == 0) = false := by simpa using t0
  have t01 : (t != 0) = true := by unfold bne; rw [t00]; rfl
  have hNs : N.size ≤ 4611686018427387904 := by rw [← hN]; exact OK.out.name
  have hLs : L.size ≤ 4611686018427387904 := by rw [← hL]; exact OK.out.link
  have HSL := fun w => Lib.hid (specSlashed N w hNs)
  clear ht hN hL
  go_cut [60] (fun c wx => ∃ b : Bool, c = .bool b ∧ Hid (TyR t N L b) ∧ Hid (w4 = wx))
  case first => as_aux_lemma =>
    have e0 : w4.cell? ⟨H, 0, none⟩ = some (.int .u8 t) := by rw [← HT.out]; exact HB4.out.cell 0
    have e1 : w4.cell? ⟨H, 1, none⟩ = some (.string N) := by rw [← HN.out]; exact HB4.out.cell 1
    have e2 : w4.cell? ⟨H, 2, none⟩ = some (.string L) := by rw [← HL.out]; exact HB4.out.cell 2
    by_cases a1 : t < 48
    · skip
      go_wp2_with (go_at_call 19; refine (HSL _).out.mono ?_; rintro e w' ⟨rfl, rfl⟩)
      go_meet
      case rel => exact ⟨true, rfl, Lib.hid (fun e => by cases e), Lib.hid rfl⟩
    by_cases a2 : 55 < t
    · skip
      go_wp2_with (go_at_call 19; refine (HSL _).out.mono ?_; rintro e w' ⟨rfl, rfl⟩)
      go_meet
      case rel => exact ⟨true, rfl, Lib.hid (fun e => by cases e), Lib.hid rfl⟩
    by_cases a3 : N.size = 0
    · obtain ⟨n1, n2⟩ := emp_yes a3
      clear a3
      go_wp2_with (go_at_call 19; refine (HSL _).out.mono ?_; rintro e w' ⟨rfl, rfl⟩)
      go_meet
      case rel => exact ⟨true, rfl, Lib.hid (fun e => by cases e), Lib.hid rfl⟩
    obtain ⟨n1, n2⟩ := emp_no a3
    obtain ⟨sl, hsl⟩ : ∃ s, slB N = s := ⟨_, rfl⟩
    rw [hsl] at HSL
    have HSS := Lib.hid hsl
    have HA3 := Lib.hid a3
    clear hsl a3
    cases sl with
    | true =>
      by_cases a4 : t = 53
      · subst a4
        by_cases a5 : L.size = 0
        · obtain ⟨l1, l2⟩ := emp_yes a5
          have HA5 := Lib.hid a5
          clear a5
          go_wp2_with (go_at_call 19; refine (HSL _).out.mono ?_; rintro e w' ⟨rfl, rfl⟩)
          go_meet
          case rel => exact ⟨false, rfl, Lib.hid (fun _ => ⟨by omega, by omega, HA3.out, fun _ => rfl, fun h => absurd HA5.out h⟩), Lib.hid rfl⟩
        · obtain ⟨l1, l2⟩ := emp_no a5
          clear a5
          go_wp2_with (go_at_call 19; refine (HSL _).out.mono ?_; rintro e w' ⟨rfl, rfl⟩)
          go_meet
          case rel => exact ⟨true, rfl, Lib.hid (fun e => by cases e), Lib.hid rfl⟩
      · have a4' : (t == 53) = false := by simpa using a4
        have a4b : (t != 53) = true := by unfold bne; rw [a4']; rfl
        go_wp2_with (go_at_call 19; refine (HSL _).out.mono ?_; rintro e w' ⟨rfl, rfl⟩)
        go_meet
        case rel => exact ⟨true, rfl, Lib.hid (fun e => by cases e), Lib.hid rfl⟩
    | false =>
      by_cases a5 : L.size = 0
      · obtain ⟨l1, l2⟩ := emp_yes a5
        have HA5 := Lib.hid a5
        clear a5
        go_wp2_with (go_at_call 19; refine (HSL _).out.mono ?_; rintro e w' ⟨rfl, rfl⟩)
        go_meet
        case rel => exact ⟨false, rfl, Lib.hid (fun _ => ⟨by omega, by omega, HA3.out, fun h => (by rw [HSS.out] at h; cases h), fun h => absurd HA5.out h⟩), Lib.hid rfl⟩
      · obtain ⟨l1, l2⟩ := emp_no a5
        clear a5
        by_cases b1 : t = 49
        · subst b1
          go_wp2_with (go_at_call 19; refine (HSL _).out.mono ?_; rintro e w' ⟨rfl, rfl⟩)
          go_meet
          case rel => exact ⟨false, rfl, Lib.hid (fun _ => ⟨by omega, by omega, HA3.out, fun h => (by rw [HSS.out] at h; cases h), fun _ => .inl rfl⟩), Lib.hid rfl⟩
        have b1' : (t == 49) = false := by simpa using b1
        have b1b : (t != 49) = true := by unfold bne; rw [b1']; rfl
        by_cases b2 : t = 50
        · subst b2
          go_wp2_with (go_at_call 19; refine (HSL _).out.mono ?_; rintro e w' ⟨rfl, rfl⟩)
          go_meet
          case rel => exact ⟨false, rfl, Lib.hid (fun _ => ⟨by omega, by omega, HA3.out, fun h => (by rw [HSS.out] at h; cases h), fun _ => .inr rfl⟩), Lib.hid rfl⟩
        · have b2' : (t == 50) = false := by simpa using b2
          have b2b : (t != 50) = true := by unfold bne; rw [b2']; rfl
          go_wp2_with (go_at_call 19; refine (HSL _).out.mono ?_; rintro e w' ⟨rfl, rfl⟩)
          go_meet
          case rel => exact ⟨true, rfl, Lib.hid (fun e => by cases e), Lib.hid rfl⟩
  case rest => as_aux_lemma =>
    obtain ⟨b0, rfl, HTY, hw⟩ := hcut
    have hw' := hw.out
    clear hw
    subst hw'
    go_upto_if 60 with fail
    go_cut [5] (fun v wx => ∃ y : Int, v = .int .i64 y ∧ Hid (y = 0 ∨ (y = 1 ∧ b0 = false)) ∧ Hid (w4 = wx))
    case first => as_aux_lemma =>
      cases b0 with
      | true =>
        go_wp2_with fail
        go_meet
        case rel => exact ⟨0, rfl, Lib.hid (.inl rfl), Lib.hid rfl⟩
      | false =>
        go_wp2_with fail
        go_meet
        case rel => exact ⟨1, rfl, Lib.hid (.inr ⟨rfl, rfl⟩), Lib.hid rfl⟩
    case rest => as_aux_lemma =>
    first | (rename_i oa ob oc od oe og oh oi oj ok ol om oo op oq os ot ou ov ow ox oy oz oA oB oC oD oE oF oG oH oI oJ oK oL oM oN oO oP oQ oR oS oT oU oV oW oX oY oZ o0 o1 o2 o3 o4 o5 o6 o7 o8 o9 pa pb pc pd pe pf pg ph pi pj pk pl pm pn po pp pq pr ps pt pu pv pw px py pz pA pB pC pD pE pF pG pH pI pJ pK pL pM pN pO pP pQ pR pS pT pU pV pW pX pY pZ p0 p1 p2 p3 p4 p5 p6 p7 p8 p9 qa qb qc qd qe qf qg qh qi qj qk ql qm qn qo qp qq qr qs qt qu qv qw qx qy qz qA qB qC qD qE qF qG qH qI qJ qK qL qM qN qO qP qQ qR qS qT qU qV qW qX qY qZ q0 q1 q2 q3 q4 q5 q6 q7 q8 q9 za zb zc zd ze zf zg zh zi zj zk zl zm zn zo zp zq zr zs zt zu zv zw zx zy zz zA zB zC zD zE zF zG zH zI zJ zK zL zM zN zO zP; clear oa ob oc od oe og oh oi oj ok ol om oo op oq os ot ou ov ow ox oy oz oA oB oC oD oE oF oG oH oI oJ oK oL oM oN oO oP oQ oR oS oT oU oV oW oX oY oZ o0 o1 o2 o3 o4 o5 o6 o7 o8 o9 pa pb pc pd pe pf pg ph pi pj pk pl pm pn po pp pq pr ps pt pu pv pw px py pz pA pB pC pD pE pF pG pH pI pJ pK pL pM pN pO pP pQ pR pS pT pU pV pW pX pY pZ p0 p1 p2 p3 p4 p5 p6 p7 p8 p9 qa qb qc qd qe qf qg qh qi qj qk ql qm qn qo qp qq qr qs qt qu qv qw qx qy qz qA qB qC qD qE qF qG qH qI qJ qK qL qM qN qO qP qQ qR qS qT qU qV qW qX qY qZ q0 q1 q2 q3 q4 q5 q6 q7 q8 q9 za zb zc zd ze zf zg zh zi zj zk zl zm zn zo zp zq zr zs zt zu zv zw zx zy zz zA zB zC zD zE zF zG zH zI zJ zK zL zM zN zO zP)
    obtain ⟨y1, rfl, HY1, hw⟩ := hcut
    have hw' := hw.out
    clear hw
    subst hw'
    obtain ⟨mj, hmj⟩ : ∃ x, h.maj = x := ⟨_, rfl⟩
    obtain ⟨mi, hmi⟩ : ∃ x, h.min = x := ⟨_, rfl⟩
    have HMJ := Lib.hid hmj
    have HMI := Lib.hid hmi
    clear hmj hmi
    go_upto_region 7 with fail
    go_cut [78] (fun c wx => ∃ b : Bool, c = .bool b ∧ Hid (b = false → t = 51 ∨ t = 52 ∨ (mj = 0 ∧ mi = 0)) ∧ Hid (w4 = wx))
    case first => as_aux_lemma =>
      have e0 : w4.cell? ⟨H, 0, none⟩ = some (.int .u8 t) := by rw [← HT.out]; exact HB4.out.cell 0
      have e17 : w4.cell? ⟨H, 17, none⟩ = some (.int .i64 mj) := by rw [← HMJ.out]; exact HB4.out.cell 17
      have e18 : w4.cell? ⟨H, 18, none⟩ = some (.int .i64 mi) := by rw [← HMI.out]; exact HB4.out.cell 18
      by_cases b1 : t = 51
      · subst b1
        go_wp2_with fail
        go_meet
        case rel => exact ⟨false, rfl, Lib.hid (fun _ => .inl rfl), Lib.hid rfl⟩
      have b1' : (t == 51) = false := by simpa using b1
      have b1b : (t != 51) = true := by unfold bne; rw [b1']; rfl
      by_cases b2 : t = 52
      · subst b2
        go_wp2_with fail
        go_meet
        case rel => exact ⟨false, rfl, Lib.hid (fun _ => .inr (.inl rfl)), Lib.hid rfl⟩
      have b2' : (t == 52) = false := by simpa using b2
      have b2b : (t != 52) = true := by unfold bne; rw [b2']; rfl
      by_cases b3 : mj = 0
      · subst b3
        by_cases b4 : mi = 0
        · subst b4
          go_wp2_with fail
          go_meet
          case rel => exact ⟨false, rfl, Lib.hid (fun _ => .inr (.inr ⟨rfl, rfl⟩)), Lib.hid rfl⟩
        · have b4' : (mi == 0) = false := by simpa using b4
          have b4b : (mi != 0) = true := by unfold bne; rw [b4']; rfl
          go_wp2_with fail
          go_meet
          case rel => exact ⟨true, rfl, Lib.hid (fun e => by cases e), Lib.hid rfl⟩
      · have b3' : (mj == 0) = false := by simpa using b3
        have b3b : (mj != 0) = true := by unfold bne; rw [b3']; rfl
        go_wp2_with fail
        go_meet
        case rel => exact ⟨true, rfl, Lib.hid (fun e => by cases e), Lib.hid rfl⟩
    case rest => as_aux_lemma =>
    first | (rename_i oa ob oc od oe og oh oi oj ok ol om oo op oq os ot ou ov ow ox oy oz oA oB oC oD oE oF oG oH oI oJ oK oL oM oN oO oP oQ oR oS oT oU oV oW oX oY oZ o0 o1 o2 o3 o4 o5 o6 o7 o8 o9 pa pb pc pd pe pf pg ph pi pj pk pl pm pn po pp pq pr ps pt pu pv pw px py pz pA pB pC pD pE pF pG pH pI pJ pK pL pM pN pO pP pQ pR pS pT pU pV pW pX pY pZ p0 p1 p2 p3 p4 p5 p6 p7 p8 p9 qa qb qc qd qe qf qg qh qi qj qk ql qm qn qo qp qq qr qs qt qu qv qw qx qy qz qA qB qC qD qE qF qG qH qI qJ qK qL qM qN qO qP qQ qR qS qT qU qV qW qX qY qZ q0 q1 q2 q3 q4 q5 q6 q7 q8 q9 za zb zc zd ze zf zg zh zi zj zk zl zm zn zo zp zq zr zs zt zu zv zw zx zy zz zA zB zC zD zE zF zG zH zI zJ zK zL zM zN zO zP zQ _ _ _ _; clear oa ob oc od oe og oh oi oj ok ol om oo op oq os ot ou ov ow ox oy oz oA oB oC oD oE oF oG oH oI oJ oK oL oM oN oO oP oQ oR oS oT oU oV oW oX oY oZ o0 o1 o2 o3 o4 o5 o6 o7 o8 o9 pa pb pc pd pe pf pg ph pi pj pk pl pm pn po pp pq pr ps pt pu pv pw px py pz pA pB pC pD pE pF pG pH pI pJ pK pL pM pN pO pP pQ pR pS pT pU pV pW pX pY pZ p0 p1 p2 p3 p4 p5 p6 p7 p8 p9 qa qb qc qd qe qf qg qh qi qj qk ql qm qn qo qp qq qr qs qt qu qv qw qx qy qz qA qB qC qD qE qF qG qH qI qJ qK qL qM qN qO qP qQ qR qS qT qU qV qW qX qY qZ q0 q1 q2 q3 q4 q5 q6 q7 q8 q9 za zb zc zd ze zf zg zh zi zj zk zl zm zn zo zp zq zr zs zt zu zv zw zx zy zz zA zB zC zD zE zF zG zH zI zJ zK zL zM zN zO zP zQ)
    obtain ⟨b1, rfl, HDV, hw⟩ := hcut
    have hw' := hw.out
    clear hw
    subst hw'
    go_upto_if 78 with fail
    go_cut [5] (fun v wx => ∃ y : Int, v = .int .i64 y ∧ Hid (y = 0 ∨ (y = y1 ∧ b1 = false)) ∧ Hid (w4 = wx))
    case first => as_aux_lemma =>
      cases b1 with
      | true =>
        go_wp2_with fail
        go_meet
        case rel => exact ⟨0, rfl, Lib.hid (.inl rfl), Lib.hid rfl⟩
      | false =>
        go_wp2_with fail
        go_meet
        case rel => exact ⟨y1, rfl, Lib.hid (.inr ⟨rfl, rfl⟩), Lib.hid rfl⟩
    case rest => as_aux_lemma =>
    first | (rename_i oa ob oc od oe og oh oi oj ok ol om oo op oq os ot ou ov ow ox oy oz oA oB oC oD oE oF oG oH oI oJ oK oL oM oN oO oP oQ oR oS oT oU oV oW oX oY oZ o0 o1 o2 o3 o4 o5 o6 o7 o8 o9 pa pb pc pd pe pf pg ph pi pj pk pl pm pn po pp pq pr ps pt pu pv pw px py pz pA pB pC pD pE pF pG pH pI pJ pK pL pM pN pO pP pQ pR pS pT pU pV pW pX pY pZ p0 p1 p2 p3 p4 p5 p6 p7 p8 p9 qa qb qc qd qe qf qg qh qi qj qk ql qm qn qo qp qq qr qs qt qu qv qw qx qy qz qA qB qC qD qE qF qG qH qI qJ qK qL qM qN qO qP qQ qR qS qT qU qV qW qX qY qZ q0 q1 q2 q3 q4 q5 q6 q7 q8 q9 za zb zc zd ze zf zg zh zi zj zk zl zm zn zo zp zq zr zs zt zu zv zw zx zy zz zA zB zC zD zE zF zG zH zI zJ zK zL zM zN zO zP; clear oa ob oc od oe og oh oi oj ok ol om oo op oq os ot ou ov ow ox oy oz oA oB oC oD oE oF oG oH oI oJ oK oL oM oN oO oP oQ oR oS oT oU oV oW oX oY oZ o0 o1 o2 o3 o4 o5 o6 o7 o8 o9 pa pb pc pd pe pf pg ph pi pj pk pl pm pn po pp pq pr ps pt pu pv pw px py pz pA pB pC pD pE pF pG pH pI pJ pK pL pM pN pO pP pQ pR pS pT pU pV pW pX pY pZ p0 p1 p2 p3 p4 p5 p6 p7 p8 p9 qa qb qc qd qe qf qg qh qi qj qk ql qm qn qo qp qq qr qs qt qu qv qw qx qy qz qA qB qC qD qE qF qG qH qI qJ qK qL qM qN qO qP qQ qR qS qT qU qV qW qX qY qZ q0 q1 q2 q3 q4 q5 q6 q7 q8 q9 za zb zc zd ze zf zg zh zi zj zk zl zm zn zo zp zq zr zs zt zu zv zw zx zy zz zA zB zC zD zE zF zG zH zI zJ zK zL zM zN zO zP)
    obtain ⟨y2, rfl, HY2, hw⟩ := hcut
    have hw' := hw.out
    clear hw
    subst hw'
    have e1 : w4.cell? ⟨H, 1, none⟩ = some (.string N) := by rw [← HN.out]; exact HB4.out.cell 1
    go_wp2_with fail
    refine (K.text N 256 w4 hNs).mono ?_
    rintro e w' ⟨tn0, rfl, htn0, rfl⟩
    have HTN0 := Lib.hid htn0
    clear htn0 e1
    go_upto_region 10 with fail
    have HSPL := fun w => Lib.hid (specSplitsB N w (by rw [← HN.out]; exact HN1.out))
    go_cut [88] (fun c wx => ∃ b : Bool, c = .bool b ∧ Hid (b = true ↔ tn0 = 1) ∧ Hid (w4 = wx))
    case first => as_aux_lemma =>
      by_cases s0 : tn0 = 1
      · have s1 : (tn0 == 1) = true := by simpa using s0
        have HS0 := Lib.hid s0
        go_wp2_with fail
        go_meet
        case rel => exact ⟨true, rfl, Lib.hid ⟨fun _ => HS0.out, fun _ => rfl⟩, Lib.hid rfl⟩
      · have s1 : (tn0 == 1) = false := by simpa using s0
        have HS0 := Lib.hid s0
        go_wp2_with fail
        go_meet
        case rel => exact ⟨false, rfl, Lib.hid ⟨(fun h => by cases h), fun h => absurd h HS0.out⟩, Lib.hid rfl⟩
    case rest => as_aux_lemma =>
    first | (rename_i oa ob oc od oe og oh oi oj ok ol om oo op oq os ot ou ov ow ox oy oz oA oB oC oD oE oF oG oH oI oJ oK oL oM oN oO oP oQ oR oS oT oU oV oW oX oY oZ o0 o1 o2 o3 o4 o5 o6 o7 o8 o9 pa pb pc pd pe pf pg ph pi pj pk pl pm pn po pp pq pr ps pt pu pv pw px py pz pA pB pC pD pE pF pG pH pI pJ pK pL pM pN pO pP pQ pR pS pT pU pV pW pX pY pZ p0 p1 p2 p3 p4 p5 p6 p7 p8 p9 qa qb qc qd qe qf qg qh qi qj qk ql qm qn qo qp qq qr qs qt qu qv qw qx qy qz qA qB qC qD qE qF qG qH qI qJ qK qL qM qN qO qP qQ qR qS qT qU qV qW qX qY qZ q0 q1 q2 q3 q4 q5 q6 q7 q8 q9 za zb zc zd ze zf zg zh zi zj zk zl zm zn zo zp zq zr zs zt zu zv zw zx zy zz zA zB zC zD zE zF zG zH zI zJ zK zL zM zN zO zP zQ _ _ _ _; clear oa ob oc od oe og oh oi oj ok ol om oo op oq os ot ou ov ow ox oy oz oA oB oC oD oE oF oG oH oI oJ oK oL oM oN oO oP oQ oR oS oT oU oV oW oX oY oZ o0 o1 o2 o3 o4 o5 o6 o7 o8 o9 pa pb pc pd pe pf pg ph pi pj pk pl pm pn po pp pq pr ps pt pu pv pw px py pz pA pB pC pD pE pF pG pH pI pJ pK pL pM pN pO pP pQ pR pS pT pU pV pW pX pY pZ p0 p1 p2 p3 p4 p5 p6 p7 p8 p9 qa qb qc qd qe qf qg qh qi qj qk ql qm qn qo qp qq qr qs qt qu qv qw qx qy qz qA qB qC qD qE qF qG qH qI qJ qK qL qM qN qO qP qQ qR qS qT qU qV qW qX qY qZ q0 q1 q2 q3 q4 q5 q6 q7 q8 q9 za zb zc zd ze zf zg zh zi zj zk zl zm zn zo zp zq zr zs zt zu zv zw zx zy zz zA zB zC zD zE zF zG zH zI zJ zK zL zM zN zO zP zQ)
    obtain ⟨bn, rfl, HBN, hw⟩ := hcut
    have hw' := hw.out
    clear hw
    subst hw'
    go_upto_if 88 with fail
    go_cut [6] (fun v wx => ∃ y : Int, v = .int .i64 y ∧ Hid ((bn = true ∧ ∃ b : Bool, (b = true ↔ (N.size ≤ 100 ∨ ∃ i, Sp N i)) ∧ y = whenV b) ∨ (bn = false ∧ y = tn0)) ∧ Hid (w4 = wx))
    case first => as_aux_lemma =>
      cases bn with
      | false =>
        go_wp2_with fail
        go_meet
        case rel => exact ⟨tn0, rfl, Lib.hid (.inr ⟨rfl, rfl⟩), Lib.hid rfl⟩
      | true =>
        have e1 : w4.cell? ⟨H, 1, none⟩ = some (.string N) := by rw [← HN.out]; exact HB4.out.cell 1
        by_cases s2 : N.size ≤ 100
        · have s3 : (N.size : Int) ≤ 100 := by omega
          have HS2 := Lib.hid s2
          go_wp2_with fail
          refine (specWhen _ _).mono ?_
          rintro e w' ⟨rfl, hw9⟩
          subst hw9
          go_simp
          go_wp2_with fail
          go_meet
          case rel => exact ⟨_, rfl, Lib.hid (.inl ⟨rfl, true, ⟨fun _ => .inl HS2.out, fun _ => rfl⟩, rfl⟩), Lib.hid rfl⟩
        · have s3 : ¬ (N.size : Int) ≤ 100 := by omega
          have HS2 := Lib.hid s2
          go_wp2_with fail
          refine (HSPL _).out.mono ?_
          rintro e w' ⟨b, rfl, hsb, hw9⟩
          subst hw9
          have HSB := Lib.hid hsb
          clear hsb
          go_simp
          go_wp2_with fail
          refine (specWhen _ _).mono ?_
          rintro e w' ⟨rfl, hw9⟩
          subst hw9
          go_simp
          go_wp2_with fail
          go_meet
          case rel => exact ⟨_, rfl, Lib.hid (.inl ⟨rfl, b, ⟨fun h => .inr (HSB.out.1 h), fun h => h.elim (fun h => absurd h HS2.out) HSB.out.2⟩, rfl⟩), Lib.hid rfl⟩
    case rest => as_aux_lemma =>
    first | (rename_i oa ob oc od oe og oh oi oj ok ol om oo op oq os ot ou ov ow ox oy oz oA oB oC oD oE oF oG oH oI oJ oK oL oM oN oO oP oQ oR oS oT oU oV oW oX oY oZ o0 o1 o2 o3 o4 o5 o6 o7 o8 o9 pa pb pc pd pe pf pg ph pi pj pk pl pm pn po pp pq pr ps pt pu pv pw px py pz pA pB pC pD pE pF pG pH pI pJ pK pL pM pN pO pP pQ pR pS pT pU pV pW pX pY pZ p0 p1 p2 p3 p4 p5 p6 p7 p8 p9 qa qb qc qd qe qf qg qh qi qj qk ql qm qn qo qp qq qr qs qt qu qv qw qx qy qz qA qB qC qD qE qF qG qH qI qJ qK qL qM qN qO qP qQ qR qS qT qU qV qW qX qY qZ q0 q1 q2 q3 q4 q5 q6 q7 q8 q9 za zb zc zd ze zf zg zh zi zj zk zl zm zn zo zp zq zr zs zt zu zv zw zx zy zz zA zB zC zD zE zF zG zH zI zJ zK zL zM zN zO zP; clear oa ob oc od oe og oh oi oj ok ol om oo op oq os ot ou ov ow ox oy oz oA oB oC oD oE oF oG oH oI oJ oK oL oM oN oO oP oQ oR oS oT oU oV oW oX oY oZ o0 o1 o2 o3 o4 o5 o6 o7 o8 o9 pa pb pc pd pe pf pg ph pi pj pk pl pm pn po pp pq pr ps pt pu pv pw px py pz pA pB pC pD pE pF pG pH pI pJ pK pL pM pN pO pP pQ pR pS pT pU pV pW pX pY pZ p0 p1 p2 p3 p4 p5 p6 p7 p8 p9 qa qb qc qd qe qf qg qh qi qj qk ql qm qn qo qp qq qr qs qt qu qv qw qx qy qz qA qB qC qD qE qF qG qH qI qJ qK qL qM qN qO qP qQ qR qS qT qU qV qW qX qY qZ q0 q1 q2 q3 q4 q5 q6 q7 q8 q9 za zb zc zd ze zf zg zh zi zj zk zl zm zn zo zp zq zr zs zt zu zv zw zx zy zz zA zB zC zD zE zF zG zH zI zJ zK zL zM zN zO zP)
    obtain ⟨tn1, rfl, HTN1, hw⟩ := hcut
    have hw' := hw.out
    clear hw
    subst hw'
    clear HSPL
    go_upto_region 12 with fail
    obtain ⟨U, hU⟩ : ∃ t, h.un = t := ⟨_, rfl⟩
    obtain ⟨G, hG⟩ : ∃ t, h.gn = t := ⟨_, rfl⟩
    have HU := Lib.hid hU
    have HG := Lib.hid hG
    have hUs : U.size ≤ 4611686018427387904 := by rw [← hU]; exact OK.out.un
    have hGs : G.size ≤ 4611686018427387904 := by rw [← hG]; exact OK.out.gn
    have KS : Hid (∀ w', Below w4.heap.size w4 w' → w'.cell? ⟨H, 2, none⟩ = some (.string L) ∧ w'.cell? ⟨H, 7, none⟩ = some (.string U) ∧ w'.cell? ⟨H, 8, none⟩ = some (.string G) ∧ Below w4.heap.size w4 w') := Lib.hid (fun w' hb => by
      have hB := HB4.out.below hb HB4.out.lt
      exact ⟨by rw [← HL.out]; exact hB.cell 2, by rw [← hU]; exact hB.cell 7, by rw [← hG]; exact hB.cell 8, hb⟩)
    have KA : Hid (∀ w' o, (w'.cell? ⟨H, 2, none⟩ = some (.string L) ∧ w'.cell? ⟨H, 7, none⟩ = some (.string U) ∧ w'.cell? ⟨H, 8, none⟩ = some (.string G) ∧ Below w4.heap.size w4 w') → _) := Lib.hid (fun w' o h => KS.out (w'.alloc o) (h.2.2.2.alloc h.2.2.2.size o))
    have KB : Hid (∀ w' w'', (w'.cell? ⟨H, 2, none⟩ = some (.string L) ∧ w'.cell? ⟨H, 7, none⟩ = some (.string U) ∧ w'.cell? ⟨H, 8, none⟩ = some (.string G) ∧ Below w4.heap.size w4 w') → Below w'.heap.size w' w'' → _) := Lib.hid (fun w' w'' h hb => KS.out w'' (h.2.2.2.trans (hb.mono h.2.2.2.size)))
    have KX : Hid (∀ w', (w'.cell? ⟨H, 2, none⟩ = some (.string L) ∧ w'.cell? ⟨H, 7, none⟩ = some (.string U) ∧ w'.cell? ⟨H, 8, none⟩ = some (.string G) ∧ Below w4.heap.size w4 w') → Below w4.heap.size w4 w') := Lib.hid (fun w' h => h.2.2.2)
    clear hU hG
    go_cut [5] (fun v wx => ∃ y : Int, v = .int .i64 y ∧ Hid (∃ tl ou og : Int, K.TR L 100 tl ∧ K.OR U ou ∧ K.OR G og ∧ y = allV [y2, tn1, tl, ou, og]) ∧ Hid (Below w4.heap.size w4 wx))
    case first => as_aux_lemma =>
      refine wp_region_held_drew (S := fun w' => w'.cell? ⟨H, 2, none⟩ = some (.string L) ∧ w'.cell? ⟨H, 7, none⟩ = some (.string U) ∧ w'.cell? ⟨H, 8, none⟩ = some (.string G) ∧ Below w4.heap.size w4 w') (by kernel_rfl) (KS.out _ ((Below.refl _ w4).drew)) (fun hHeld => ?_)
      refine wpAnyH_take (i := 0) (oi := { dst := some 99, op := Go.Op.move (Go.Operand.tmp 5), type := 3, pos := "header.go:171", after := #[], guard := none }) (v := .int .i64 y2) rfl (by kernel_rfl) (by kernel_rfl) (by kernel_rfl) (fun _ _ _ h => h) (Or.inl ⟨by rfl, fun w9 hS9 => ?_⟩) hHeld ?_
      · obtain ⟨g0, g1, g2, _⟩ := hS9
        go_simp
      simp only [Act.put, List.setIfInBounds_toArray, List.set_cons_zero, List.set_cons_succ]
      refine wpAnyH_take (i := 1) (oi := { dst := some 100, op := Go.Op.move (Go.Operand.tmp 6), type := 3, pos := "header.go:171", after := #[], guard := none }) (v := .int .i64 tn1) rfl (by kernel_rfl) (by kernel_rfl) (by kernel_rfl) (fun _ _ _ h => h) (Or.inl ⟨by rfl, fun w9 hS9 => ?_⟩) hHeld ?_
      · obtain ⟨g0, g1, g2, _⟩ := hS9
        go_simp
      simp only [Act.put, List.setIfInBounds_toArray, List.set_cons_zero, List.set_cons_succ]
      refine wpAnyH_take (i := 2) (oi := { dst := some 101, op := Go.Op.fieldAddr 32 (Go.Operand.tmp 2) 2, type := 0, pos := "header.go:171", after := #[], guard := none }) (v := .pointer (some ⟨H, 2, none⟩)) rfl (by kernel_rfl) (by kernel_rfl) (by kernel_rfl) (fun _ _ _ h => h) (Or.inl ⟨by rfl, fun w9 hS9 => ?_⟩) hHeld ?_
      · obtain ⟨g0, g1, g2, _⟩ := hS9
        go_simp
      simp only [Act.put, List.setIfInBounds_toArray, List.set_cons_zero, List.set_cons_succ]
      refine wpAnyH_take (i := 3) (oi := { dst := some 102, op := Go.Op.load 9 (Go.Operand.tmp 101), type := 9, pos := "header.go:171", after := #[{ on := 2, ground := Go.Ground.data }], guard := none }) (v := .string L) rfl (by kernel_rfl) (by kernel_rfl) (by kernel_rfl) (fun _ _ _ h => h) (Or.inl ⟨by rfl, fun w9 hS9 => ?_⟩) hHeld ?_
      · obtain ⟨g0, g1, g2, _⟩ := hS9
        go_simp
      simp only [Act.put, List.setIfInBounds_toArray, List.set_cons_zero, List.set_cons_succ]
      refine wpAnyH_take (i := 4) (oi := { dst := some 103, op := Go.Op.move (Go.Operand.tmp 1), type := 3, pos := "header.go:171", after := #[], guard := none }) (v := .int .i64 1) rfl (by kernel_rfl) (by kernel_rfl) (by kernel_rfl) (fun _ _ _ h => h) (Or.inl ⟨by rfl, fun w9 hS9 => ?_⟩) hHeld ?_
      · obtain ⟨g0, g1, g2, _⟩ := hS9
        go_simp
      simp only [Act.put, List.setIfInBounds_toArray, List.set_cons_zero, List.set_cons_succ]
      refine wpAnyH_take (i := 6) (oi := { dst := some 105, op := Go.Op.fieldAddr 32 (Go.Operand.tmp 2) 7, type := 0, pos := "header.go:171", after := #[], guard := none }) (v := .pointer (some ⟨H, 7, none⟩)) rfl (by kernel_rfl) (by kernel_rfl) (by kernel_rfl) (fun _ _ _ h => h) (Or.inl ⟨by rfl, fun w9 hS9 => ?_⟩) hHeld ?_
      · obtain ⟨g0, g1, g2, _⟩ := hS9
        go_simp
      simp only [Act.put, List.setIfInBounds_toArray, List.set_cons_zero, List.set_cons_succ]
      refine wpAnyH_take (i := 7) (oi := { dst := some 106, op := Go.Op.load 9 (Go.Operand.tmp 105), type := 9, pos := "header.go:171", after := #[{ on := 6, ground := Go.Ground.data }], guard := none }) (v := .string U) rfl (by kernel_rfl) (by kernel_rfl) (by kernel_rfl) (fun _ _ _ h => h) (Or.inl ⟨by rfl, fun w9 hS9 => ?_⟩) hHeld ?_
      · obtain ⟨g0, g1, g2, _⟩ := hS9
        go_simp
      simp only [Act.put, List.setIfInBounds_toArray, List.set_cons_zero, List.set_cons_succ]
      refine wpAnyH_take (i := 8) (oi := { dst := some 107, op := Go.Op.move (Go.Operand.tmp 1), type := 3, pos := "header.go:171", after := #[], guard := none }) (v := .int .i64 1) rfl (by kernel_rfl) (by kernel_rfl) (by kernel_rfl) (fun _ _ _ h => h) (Or.inl ⟨by rfl, fun w9 hS9 => ?_⟩) hHeld ?_
      · obtain ⟨g0, g1, g2, _⟩ := hS9
        go_simp
      simp only [Act.put, List.setIfInBounds_toArray, List.set_cons_zero, List.set_cons_succ]
      refine wpAnyH_take (i := 10) (oi := { dst := some 109, op := Go.Op.fieldAddr 32 (Go.Operand.tmp 2) 8, type := 0, pos := "header.go:171", after := #[], guard := none }) (v := .pointer (some ⟨H, 8, none⟩)) rfl (by kernel_rfl) (by kernel_rfl) (by kernel_rfl) (fun _ _ _ h => h) (Or.inl ⟨by rfl, fun w9 hS9 => ?_⟩) hHeld ?_
      · obtain ⟨g0, g1, g2, _⟩ := hS9
        go_simp
      simp only [Act.put, List.setIfInBounds_toArray, List.set_cons_zero, List.set_cons_succ]
      refine wpAnyH_take (i := 11) (oi := { dst := some 110, op := Go.Op.load 9 (Go.Operand.tmp 109), type := 9, pos := "header.go:171", after := #[{ on := 10, ground := Go.Ground.data }], guard := none }) (v := .string G) rfl (by kernel_rfl) (by kernel_rfl) (by kernel_rfl) (fun _ _ _ h => h) (Or.inl ⟨by rfl, fun w9 hS9 => ?_⟩) hHeld ?_
      · obtain ⟨g0, g1, g2, _⟩ := hS9
        go_simp
      simp only [Act.put, List.setIfInBounds_toArray, List.set_cons_zero, List.set_cons_succ]
      refine wpAnyH_take (i := 12) (oi := { dst := some 111, op := Go.Op.move (Go.Operand.tmp 1), type := 3, pos := "header.go:171", after := #[], guard := none }) (v := .int .i64 1) rfl (by kernel_rfl) (by kernel_rfl) (by kernel_rfl) (fun _ _ _ h => h) (Or.inl ⟨by rfl, fun w9 hS9 => ?_⟩) hHeld ?_
      · obtain ⟨g0, g1, g2, _⟩ := hS9
        go_simp
      simp only [Act.put, List.setIfInBounds_toArray, List.set_cons_zero, List.set_cons_succ]
      refine wpAnyH_ready (rs := [5]) (by kernel_rfl) (by simp) ?_
      refine AllReadyH.cons (o := { dst := some 104, op := Go.Op.call { callee := Go.Callee.value (Go.Operand.func 20), args := #[Go.Operand.tmp 102, Go.Operand.const (Go.Value.int Go.IntKind.i64 100), Go.Operand.tmp 103], argTypes := #[9, 3, 3] }, type := 3, pos := "header.go:171", after := #[{ on := 3, ground := Go.Ground.data }, { on := 4, ground := Go.Ground.data }], guard := none }) rfl (fun K9 hK9 => ?_) AllReadyH.nil
      go_simp
      refine (K.text L 100 _ hLs).mono ?_
      rintro e w' ⟨tl, rfl, htl, rfl⟩
      have HTL := Lib.hid htl
      clear htl
      refine hK9.out _ _ (hHeld) (fun hHeld1 => ?_)
      clear hK9 K9
      try simp only [Act.put, List.setIfInBounds_toArray, List.set_cons_zero, List.set_cons_succ]
      refine wpAnyH_ready (rs := [9]) (by kernel_rfl) (by simp) ?_
      refine AllReadyH.cons (o := { dst := some 108, op := Go.Op.call { callee := Go.Callee.value (Go.Operand.func 24), args := #[Go.Operand.tmp 106, Go.Operand.tmp 107], argTypes := #[9, 3] }, type := 3, pos := "header.go:171", after := #[{ on := 7, ground := Go.Ground.data }, { on := 8, ground := Go.Ground.data }, { on := 5, ground := Go.Ground.chain }], guard := none }) rfl (fun K9 hK9 => ?_) AllReadyH.nil
      go_simp
      refine (K.owner U _ hUs).mono ?_
      rintro e w' ⟨ou, rfl, hou, hbo⟩
      have HOU := Lib.hid hou
      clear hou
      refine hK9.out _ _ (KB.out _ _ hHeld1 hbo) (fun hHeld2 => ?_)
      clear hK9 K9
      try simp only [Act.put, List.setIfInBounds_toArray, List.set_cons_zero, List.set_cons_succ]
      refine wpAnyH_ready (rs := [13]) (by kernel_rfl) (by simp) ?_
      refine AllReadyH.cons (o := { dst := some 112, op := Go.Op.call { callee := Go.Callee.value (Go.Operand.func 24), args := #[Go.Operand.tmp 110, Go.Operand.tmp 111], argTypes := #[9, 3] }, type := 3, pos := "header.go:171", after := #[{ on := 11, ground := Go.Ground.data }, { on := 12, ground := Go.Ground.data }, { on := 9, ground := Go.Ground.chain }], guard := none }) rfl (fun K9 hK9 => ?_) AllReadyH.nil
      go_simp
      refine (K.owner G _ hGs).mono ?_
      rintro e w' ⟨og, rfl, hog, hbo2⟩
      have HOG := Lib.hid hog
      clear hog
      refine hK9.out _ _ (KB.out _ _ hHeld2 hbo2) (fun hHeld3 => ?_)
      clear hK9 K9
      try simp only [Act.put, List.setIfInBounds_toArray, List.set_cons_zero, List.set_cons_succ]
      refine wpAnyH_ready (rs := [14]) (by kernel_rfl) (by simp) ?_
      refine AllReadyH.cons (o := { dst := some 113, op := Go.Op.buildSlice 27 5 #[(0, Go.Operand.tmp 99), (1, Go.Operand.tmp 100), (2, Go.Operand.tmp 104), (3, Go.Operand.tmp 108), (4, Go.Operand.tmp 112)], type := 27, pos := "header.go:171", after := #[{ on := 0, ground := Go.Ground.data }, { on := 1, ground := Go.Ground.data }, { on := 5, ground := Go.Ground.data }, { on := 9, ground := Go.Ground.data }, { on := 13, ground := Go.Ground.data }], guard := none }) rfl (fun K9 hK9 => ?_) AllReadyH.nil
      rw [if_pos (by rfl)]
      refine bs5 (.tmp 99) (.tmp 100) (.tmp 104) (.tmp 108) (.tmp 112) rfl y2 tn1 tl ou og rfl rfl rfl rfl rfl ?_
      refine hK9.out _ _ (KA.out _ _ hHeld3) (fun hHeld4 => ?_)
      clear hK9 K9
      try simp only [Act.put, List.setIfInBounds_toArray, List.set_cons_zero, List.set_cons_succ]
      refine wpAnyH_ready (rs := [15]) (by kernel_rfl) (by simp) ?_
      refine AllReadyH.cons (o := { dst := some 114, op := Go.Op.call { callee := Go.Callee.value (Go.Operand.func 23), args := #[Go.Operand.tmp 113], argTypes := #[27] }, type := 3, pos := "header.go:171", after := #[{ on := 14, ground := Go.Ground.data }, { on := 13, ground := Go.Ground.chain }], guard := none }) rfl (fun K9 hK9 => ?_) AllReadyH.nil
      go_simp
      refine (all5 _ _ _ _ _ _ _).mono ?_
      rintro e w' ⟨rfl, rfl⟩
      refine hK9.out _ _ (hHeld4) (fun hHeld5 => ?_)
      clear hK9 K9
      try simp only [Act.put, List.setIfInBounds_toArray, List.set_cons_zero, List.set_cons_succ]
      refine wpAnyH_take (i := 16) (oi := { dst := some 5, op := Go.Op.assign (Go.Operand.tmp 114), type := 3, pos := "header.go:171", after := #[{ on := 15, ground := Go.Ground.data }, { on := 15, ground := Go.Ground.chain }, { on := 0, ground := Go.Ground.phase }, { on := 1, ground := Go.Ground.phase }, { on := 2, ground := Go.Ground.phase }, { on := 3, ground := Go.Ground.phase }, { on := 4, ground := Go.Ground.phase }, { on := 5, ground := Go.Ground.phase }, { on := 6, ground := Go.Ground.phase }, { on := 7, ground := Go.Ground.phase }, { on := 8, ground := Go.Ground.phase }, { on := 9, ground := Go.Ground.phase }, { on := 10, ground := Go.Ground.phase }, { on := 11, ground := Go.Ground.phase }, { on := 12, ground := Go.Ground.phase }, { on := 13, ground := Go.Ground.phase }, { on := 14, ground := Go.Ground.phase }, { on := 15, ground := Go.Ground.phase }], guard := none }) (v := .int .i64 (allV [y2, tn1, tl, ou, og])) rfl (by kernel_rfl) (by kernel_rfl) (by kernel_rfl) (fun _ _ _ h => h) (Or.inl ⟨by rfl, fun w9 hS9 => ?_⟩) hHeld5 ?_
      · obtain ⟨g0, g1, g2, _⟩ := hS9
        go_simp
      simp only [Act.put, List.setIfInBounds_toArray, List.set_cons_zero, List.set_cons_succ]
      refine wpAnyH_done (by kernel_rfl) ?_ _
      go_wp2_with fail
      go_meet
      case rel => exact ⟨_, rfl, Lib.hid ⟨tl, _, _, HTL.out, HOU.out, HOG.out, rfl⟩, Lib.hid (KX.out _ hHeld5)⟩
    case rest => as_aux_lemma =>
    first | (rename_i oa ob oc od oe og oh oi oj ok ol om oo op oq os ot ou ov ow ox oy oz oA oB oC oD oE oF oG oH oI oJ oK oL oM oN oO oP oQ oR oS oT oU oV oW oX oY oZ o0 o1 o2 o3 o4 o5 o6 o7 o8 o9 pa pb pc pd pe pf pg ph pi pj pk pl pm pn po pp pq pr ps pt pu pv pw px py pz pA pB pC pD pE pF pG pH pI pJ pK pL pM pN pO pP pQ pR pS pT pU pV pW pX pY pZ p0 p1 p2 p3 p4 p5 p6 p7 p8 p9 qa qb qc qd qe qf qg qh qi qj qk ql qm qn qo qp qq qr qs qt qu qv qw qx qy qz qA qB qC qD qE qF qG qH qI qJ qK qL qM qN qO qP qQ qR qS qT qU qV qW qX qY qZ q0 q1 q2 q3 q4 q5 q6 q7 q8 q9 za zb zc zd ze zf zg zh zi zj zk zl zm zn zo zp zq zr zs zt zu zv zw zx zy zz zA zB zC zD zE zF zG zH zI zJ zK zL zM zN zO zP zQ _ _; clear oa ob oc od oe og oh oi oj ok ol om oo op oq os ot ou ov ow ox oy oz oA oB oC oD oE oF oG oH oI oJ oK oL oM oN oO oP oQ oR oS oT oU oV oW oX oY oZ o0 o1 o2 o3 o4 o5 o6 o7 o8 o9 pa pb pc pd pe pf pg ph pi pj pk pl pm pn po pp pq pr ps pt pu pv pw px py pz pA pB pC pD pE pF pG pH pI pJ pK pL pM pN pO pP pQ pR pS pT pU pV pW pX pY pZ p0 p1 p2 p3 p4 p5 p6 p7 p8 p9 qa qb qc qd qe qf qg qh qi qj qk ql qm qn qo qp qq qr qs qt qu qv qw qx qy qz qA qB qC qD qE qF qG qH qI qJ qK qL qM qN qO qP qQ qR qS qT qU qV qW qX qY qZ q0 q1 q2 q3 q4 q5 q6 q7 q8 q9 za zb zc zd ze zf zg zh zi zj zk zl zm zn zo zp zq zr zs zt zu zv zw zx zy zz zA zB zC zD zE zF zG zH zI zJ zK zL zM zN zO zP zQ)
    obtain ⟨y3, rfl, HY3, HX5⟩ := hcut
    clear KS KA KB KX HB0
    obtain ⟨w5, hw5⟩ : ∃ w5, w5 = wc := ⟨_, rfl⟩
    subst hw5
    have HB5 : Hid (Blk w5 H 32 h.prom.cells) := Lib.hid (HB4.out.below HX5.out HB4.out.lt)
    have HW5 : Hid (Below w.heap.size w w5) := Lib.hid (HW4.out.trans (HX5.out.mono HW4.out.size))
    clear HB4 HW4 HX5
    have KS : Hid (∀ w', Below w5.heap.size w5 w' → w'.cell? ⟨H, 4, none⟩ = some (.int .i64 h.mode) ∧ w'.cell? ⟨H, 5, none⟩ = some (.int .i64 h.uid) ∧ w'.cell? ⟨H, 6, none⟩ = some (.int .i64 h.gid) ∧ w'.cell? ⟨H, 17, none⟩ = some (.int .i64 h.maj) ∧ w'.cell? ⟨H, 18, none⟩ = some (.int .i64 h.min) ∧ Below w5.heap.size w5 w') := Lib.hid (fun w' hb => by
      have hB := HB5.out.below hb HB5.out.lt
      exact ⟨hB.cell 4, hB.cell 5, hB.cell 6, hB.cell 17, hB.cell 18, hb⟩)
    have KA : Hid (∀ w' o, (w'.cell? ⟨H, 4, none⟩ = some (.int .i64 h.mode) ∧ w'.cell? ⟨H, 5, none⟩ = some (.int .i64 h.uid) ∧ w'.cell? ⟨H, 6, none⟩ = some (.int .i64 h.gid) ∧ w'.cell? ⟨H, 17, none⟩ = some (.int .i64 h.maj) ∧ w'.cell? ⟨H, 18, none⟩ = some (.int .i64 h.min) ∧ Below w5.heap.size w5 w') → _) := Lib.hid (fun w' o h => KS.out (w'.alloc o) (h.2.2.2.2.2.alloc h.2.2.2.2.2.size o))
    have KB : Hid (∀ w' w'', (w'.cell? ⟨H, 4, none⟩ = some (.int .i64 h.mode) ∧ w'.cell? ⟨H, 5, none⟩ = some (.int .i64 h.uid) ∧ w'.cell? ⟨H, 6, none⟩ = some (.int .i64 h.gid) ∧ w'.cell? ⟨H, 17, none⟩ = some (.int .i64 h.maj) ∧ w'.cell? ⟨H, 18, none⟩ = some (.int .i64 h.min) ∧ Below w5.heap.size w5 w') → Below w'.heap.size w' w'' → _) := Lib.hid (fun w' w'' h hb => KS.out w'' (h.2.2.2.2.2.trans (hb.mono h.2.2.2.2.2.size)))
    have KX : Hid (∀ w', (w'.cell? ⟨H, 4, none⟩ = some (.int .i64 h.mode) ∧ w'.cell? ⟨H, 5, none⟩ = some (.int .i64 h.uid) ∧ w'.cell? ⟨H, 6, none⟩ = some (.int .i64 h.gid) ∧ w'.cell? ⟨H, 17, none⟩ = some (.int .i64 h.maj) ∧ w'.cell? ⟨H, 18, none⟩ = some (.int .i64 h.min) ∧ Below w5.heap.size w5 w') → Below w5.heap.size w5 w') := Lib.hid (fun w' h => h.2.2.2.2.2)
    go_upto_region 13 with fail
    go_cut [5] (fun v wx => ∃ y : Int, v = .int .i64 y ∧ Hid (y = allV [y3, smallV h.mode 1 false, smallV h.uid 1 true, smallV h.gid 1 true, smallV h.maj 1 false, smallV h.min 1 false]) ∧ Hid (Below w5.heap.size w5 wx))
    case first => as_aux_lemma =>
      refine wp_region_held_drew (S := fun w' => w'.cell? ⟨H, 4, none⟩ = some (.int .i64 h.mode) ∧ w'.cell? ⟨H, 5, none⟩ = some (.int .i64 h.uid) ∧ w'.cell? ⟨H, 6, none⟩ = some (.int .i64 h.gid) ∧ w'.cell? ⟨H, 17, none⟩ = some (.int .i64 h.maj) ∧ w'.cell? ⟨H, 18, none⟩ = some (.int .i64 h.min) ∧ Below w5.heap.size w5 w') (by kernel_rfl) (KS.out _ ((Below.refl _ w5).drew)) (fun hHeld => ?_)
      refine wpAnyH_take (i := 0) (oi := { dst := some 115, op := Go.Op.move (Go.Operand.tmp 5), type := 3, pos := "header.go:172", after := #[], guard := none }) (v := .int .i64 y3) rfl (by kernel_rfl) (by kernel_rfl) (by kernel_rfl) (fun _ _ _ h => h) (Or.inl ⟨by rfl, fun w9 hS9 => ?_⟩) hHeld ?_
      · obtain ⟨g0, g1, g2, g3, g4, _⟩ := hS9
        go_simp
      simp only [Act.put, List.setIfInBounds_toArray, List.set_cons_zero, List.set_cons_succ]
      refine wpAnyH_take (i := 1) (oi := { dst := some 116, op := Go.Op.fieldAddr 32 (Go.Operand.tmp 2) 4, type := 0, pos := "header.go:172", after := #[], guard := none }) (v := .pointer (some ⟨H, 4, none⟩)) rfl (by kernel_rfl) (by kernel_rfl) (by kernel_rfl) (fun _ _ _ h => h) (Or.inl ⟨by rfl, fun w9 hS9 => ?_⟩) hHeld ?_
      · obtain ⟨g0, g1, g2, g3, g4, _⟩ := hS9
        go_simp
      simp only [Act.put, List.setIfInBounds_toArray, List.set_cons_zero, List.set_cons_succ]
      refine wpAnyH_take (i := 2) (oi := { dst := some 117, op := Go.Op.load 2 (Go.Operand.tmp 116), type := 2, pos := "header.go:172", after := #[{ on := 1, ground := Go.Ground.data }], guard := none }) (v := .int .i64 h.mode) rfl (by kernel_rfl) (by kernel_rfl) (by kernel_rfl) (fun _ _ _ h => h) (Or.inl ⟨by rfl, fun w9 hS9 => ?_⟩) hHeld ?_
      · obtain ⟨g0, g1, g2, g3, g4, _⟩ := hS9
        go_simp
      simp only [Act.put, List.setIfInBounds_toArray, List.set_cons_zero, List.set_cons_succ]
      refine wpAnyH_take (i := 3) (oi := { dst := some 118, op := Go.Op.move (Go.Operand.tmp 1), type := 3, pos := "header.go:172", after := #[], guard := none }) (v := .int .i64 1) rfl (by kernel_rfl) (by kernel_rfl) (by kernel_rfl) (fun _ _ _ h => h) (Or.inl ⟨by rfl, fun w9 hS9 => ?_⟩) hHeld ?_
      · obtain ⟨g0, g1, g2, g3, g4, _⟩ := hS9
        go_simp
      simp only [Act.put, List.setIfInBounds_toArray, List.set_cons_zero, List.set_cons_succ]
      refine wpAnyH_take (i := 5) (oi := { dst := some 120, op := Go.Op.fieldAddr 32 (Go.Operand.tmp 2) 5, type := 0, pos := "header.go:172", after := #[], guard := none }) (v := .pointer (some ⟨H, 5, none⟩)) rfl (by kernel_rfl) (by kernel_rfl) (by kernel_rfl) (fun _ _ _ h => h) (Or.inl ⟨by rfl, fun w9 hS9 => ?_⟩) hHeld ?_
      · obtain ⟨g0, g1, g2, g3, g4, _⟩ := hS9
        go_simp
      simp only [Act.put, List.setIfInBounds_toArray, List.set_cons_zero, List.set_cons_succ]
      refine wpAnyH_take (i := 6) (oi := { dst := some 121, op := Go.Op.load 2 (Go.Operand.tmp 120), type := 2, pos := "header.go:172", after := #[{ on := 5, ground := Go.Ground.data }], guard := none }) (v := .int .i64 h.uid) rfl (by kernel_rfl) (by kernel_rfl) (by kernel_rfl) (fun _ _ _ h => h) (Or.inl ⟨by rfl, fun w9 hS9 => ?_⟩) hHeld ?_
      · obtain ⟨g0, g1, g2, g3, g4, _⟩ := hS9
        go_simp
      simp only [Act.put, List.setIfInBounds_toArray, List.set_cons_zero, List.set_cons_succ]
      refine wpAnyH_take (i := 7) (oi := { dst := some 122, op := Go.Op.move (Go.Operand.tmp 1), type := 3, pos := "header.go:172", after := #[], guard := none }) (v := .int .i64 1) rfl (by kernel_rfl) (by kernel_rfl) (by kernel_rfl) (fun _ _ _ h => h) (Or.inl ⟨by rfl, fun w9 hS9 => ?_⟩) hHeld ?_
      · obtain ⟨g0, g1, g2, g3, g4, _⟩ := hS9
        go_simp
      simp only [Act.put, List.setIfInBounds_toArray, List.set_cons_zero, List.set_cons_succ]
      refine wpAnyH_take (i := 9) (oi := { dst := some 124, op := Go.Op.fieldAddr 32 (Go.Operand.tmp 2) 6, type := 0, pos := "header.go:172", after := #[], guard := none }) (v := .pointer (some ⟨H, 6, none⟩)) rfl (by kernel_rfl) (by kernel_rfl) (by kernel_rfl) (fun _ _ _ h => h) (Or.inl ⟨by rfl, fun w9 hS9 => ?_⟩) hHeld ?_
      · obtain ⟨g0, g1, g2, g3, g4, _⟩ := hS9
        go_simp
      simp only [Act.put, List.setIfInBounds_toArray, List.set_cons_zero, List.set_cons_succ]
      refine wpAnyH_take (i := 10) (oi := { dst := some 125, op := Go.Op.load 2 (Go.Operand.tmp 124), type := 2, pos := "header.go:172", after := #[{ on := 9, ground := Go.Ground.data }], guard := none }) (v := .int .i64 h.gid) rfl (by kernel_rfl) (by kernel_rfl) (by kernel_rfl) (fun _ _ _ h => h) (Or.inl ⟨by rfl, fun w9 hS9 => ?_⟩) hHeld ?_
      · obtain ⟨g0, g1, g2, g3, g4, _⟩ := hS9
        go_simp
      simp only [Act.put, List.setIfInBounds_toArray, List.set_cons_zero, List.set_cons_succ]
      refine wpAnyH_take (i := 11) (oi := { dst := some 126, op := Go.Op.move (Go.Operand.tmp 1), type := 3, pos := "header.go:172", after := #[], guard := none }) (v := .int .i64 1) rfl (by kernel_rfl) (by kernel_rfl) (by kernel_rfl) (fun _ _ _ h => h) (Or.inl ⟨by rfl, fun w9 hS9 => ?_⟩) hHeld ?_
      · obtain ⟨g0, g1, g2, g3, g4, _⟩ := hS9
        go_simp
      simp only [Act.put, List.setIfInBounds_toArray, List.set_cons_zero, List.set_cons_succ]
      refine wpAnyH_take (i := 13) (oi := { dst := some 128, op := Go.Op.fieldAddr 32 (Go.Operand.tmp 2) 14, type := 0, pos := "header.go:172", after := #[], guard := none }) (v := .pointer (some ⟨H, 17, none⟩)) rfl (by kernel_rfl) (by kernel_rfl) (by kernel_rfl) (fun _ _ _ h => h) (Or.inl ⟨by rfl, fun w9 hS9 => ?_⟩) hHeld ?_
      · obtain ⟨g0, g1, g2, g3, g4, _⟩ := hS9
        go_simp
      simp only [Act.put, List.setIfInBounds_toArray, List.set_cons_zero, List.set_cons_succ]
      refine wpAnyH_take (i := 14) (oi := { dst := some 129, op := Go.Op.load 2 (Go.Operand.tmp 128), type := 2, pos := "header.go:172", after := #[{ on := 13, ground := Go.Ground.data }], guard := none }) (v := .int .i64 h.maj) rfl (by kernel_rfl) (by kernel_rfl) (by kernel_rfl) (fun _ _ _ h => h) (Or.inl ⟨by rfl, fun w9 hS9 => ?_⟩) hHeld ?_
      · obtain ⟨g0, g1, g2, g3, g4, _⟩ := hS9
        go_simp
      simp only [Act.put, List.setIfInBounds_toArray, List.set_cons_zero, List.set_cons_succ]
      refine wpAnyH_take (i := 15) (oi := { dst := some 130, op := Go.Op.move (Go.Operand.tmp 1), type := 3, pos := "header.go:172", after := #[], guard := none }) (v := .int .i64 1) rfl (by kernel_rfl) (by kernel_rfl) (by kernel_rfl) (fun _ _ _ h => h) (Or.inl ⟨by rfl, fun w9 hS9 => ?_⟩) hHeld ?_
      · obtain ⟨g0, g1, g2, g3, g4, _⟩ := hS9
        go_simp
      simp only [Act.put, List.setIfInBounds_toArray, List.set_cons_zero, List.set_cons_succ]
      refine wpAnyH_take (i := 17) (oi := { dst := some 132, op := Go.Op.fieldAddr 32 (Go.Operand.tmp 2) 15, type := 0, pos := "header.go:172", after := #[], guard := none }) (v := .pointer (some ⟨H, 18, none⟩)) rfl (by kernel_rfl) (by kernel_rfl) (by kernel_rfl) (fun _ _ _ h => h) (Or.inl ⟨by rfl, fun w9 hS9 => ?_⟩) hHeld ?_
      · obtain ⟨g0, g1, g2, g3, g4, _⟩ := hS9
        go_simp
      simp only [Act.put, List.setIfInBounds_toArray, List.set_cons_zero, List.set_cons_succ]
      refine wpAnyH_take (i := 18) (oi := { dst := some 133, op := Go.Op.load 2 (Go.Operand.tmp 132), type := 2, pos := "header.go:172", after := #[{ on := 17, ground := Go.Ground.data }], guard := none }) (v := .int .i64 h.min) rfl (by kernel_rfl) (by kernel_rfl) (by kernel_rfl) (fun _ _ _ h => h) (Or.inl ⟨by rfl, fun w9 hS9 => ?_⟩) hHeld ?_
      · obtain ⟨g0, g1, g2, g3, g4, _⟩ := hS9
        go_simp
      simp only [Act.put, List.setIfInBounds_toArray, List.set_cons_zero, List.set_cons_succ]
      refine wpAnyH_take (i := 19) (oi := { dst := some 134, op := Go.Op.move (Go.Operand.tmp 1), type := 3, pos := "header.go:172", after := #[], guard := none }) (v := .int .i64 1) rfl (by kernel_rfl) (by kernel_rfl) (by kernel_rfl) (fun _ _ _ h => h) (Or.inl ⟨by rfl, fun w9 hS9 => ?_⟩) hHeld ?_
      · obtain ⟨g0, g1, g2, g3, g4, _⟩ := hS9
        go_simp
      simp only [Act.put, List.setIfInBounds_toArray, List.set_cons_zero, List.set_cons_succ]
      refine wpAnyH_ready (rs := [4]) (by kernel_rfl) (by simp) ?_
      refine AllReadyH.cons (o := { dst := some 119, op := Go.Op.call { callee := Go.Callee.value (Go.Operand.func 25), args := #[Go.Operand.tmp 117, Go.Operand.tmp 118, Go.Operand.const (Go.Value.bool false)], argTypes := #[2, 3, 4] }, type := 3, pos := "header.go:172", after := #[{ on := 2, ground := Go.Ground.data }, { on := 3, ground := Go.Ground.data }], guard := none }) rfl (fun K9 hK9 => ?_) AllReadyH.nil
      go_simp
      refine (specSmall _ _ _ _ (by decide)).mono ?_
      rintro e w' ⟨rfl, rfl⟩
      refine hK9.out _ _ (hHeld) (fun hHeld1 => ?_)
      clear hK9 K9
      try simp only [Act.put, List.setIfInBounds_toArray, List.set_cons_zero, List.set_cons_succ]
      refine wpAnyH_ready (rs := [8]) (by kernel_rfl) (by simp) ?_
      refine AllReadyH.cons (o := { dst := some 123, op := Go.Op.call { callee := Go.Callee.value (Go.Operand.func 25), args := #[Go.Operand.tmp 121, Go.Operand.tmp 122, Go.Operand.const (Go.Value.bool true)], argTypes := #[2, 3, 4] }, type := 3, pos := "header.go:172", after := #[{ on := 6, ground := Go.Ground.data }, { on := 7, ground := Go.Ground.data }, { on := 4, ground := Go.Ground.chain }], guard := none }) rfl (fun K9 hK9 => ?_) AllReadyH.nil
      go_simp
      refine (specSmall _ _ _ _ (by decide)).mono ?_
      rintro e w' ⟨rfl, rfl⟩
      refine hK9.out _ _ (hHeld1) (fun hHeld2 => ?_)
      clear hK9 K9
      try simp only [Act.put, List.setIfInBounds_toArray, List.set_cons_zero, List.set_cons_succ]
      refine wpAnyH_ready (rs := [12]) (by kernel_rfl) (by simp) ?_
      refine AllReadyH.cons (o := { dst := some 127, op := Go.Op.call { callee := Go.Callee.value (Go.Operand.func 25), args := #[Go.Operand.tmp 125, Go.Operand.tmp 126, Go.Operand.const (Go.Value.bool true)], argTypes := #[2, 3, 4] }, type := 3, pos := "header.go:172", after := #[{ on := 10, ground := Go.Ground.data }, { on := 11, ground := Go.Ground.data }, { on := 8, ground := Go.Ground.chain }], guard := none }) rfl (fun K9 hK9 => ?_) AllReadyH.nil
      go_simp
      refine (specSmall _ _ _ _ (by decide)).mono ?_
      rintro e w' ⟨rfl, rfl⟩
      refine hK9.out _ _ (hHeld2) (fun hHeld3 => ?_)
      clear hK9 K9
      try simp only [Act.put, List.setIfInBounds_toArray, List.set_cons_zero, List.set_cons_succ]
      refine wpAnyH_ready (rs := [16]) (by kernel_rfl) (by simp) ?_
      refine AllReadyH.cons (o := { dst := some 131, op := Go.Op.call { callee := Go.Callee.value (Go.Operand.func 25), args := #[Go.Operand.tmp 129, Go.Operand.tmp 130, Go.Operand.const (Go.Value.bool false)], argTypes := #[2, 3, 4] }, type := 3, pos := "header.go:172", after := #[{ on := 14, ground := Go.Ground.data }, { on := 15, ground := Go.Ground.data }, { on := 12, ground := Go.Ground.chain }], guard := none }) rfl (fun K9 hK9 => ?_) AllReadyH.nil
      go_simp
      refine (specSmall _ _ _ _ (by decide)).mono ?_
      rintro e w' ⟨rfl, rfl⟩
      refine hK9.out _ _ (hHeld3) (fun hHeld4 => ?_)
      clear hK9 K9
      try simp only [Act.put, List.setIfInBounds_toArray, List.set_cons_zero, List.set_cons_succ]
      refine wpAnyH_ready (rs := [20]) (by kernel_rfl) (by simp) ?_
      refine AllReadyH.cons (o := { dst := some 135, op := Go.Op.call { callee := Go.Callee.value (Go.Operand.func 25), args := #[Go.Operand.tmp 133, Go.Operand.tmp 134, Go.Operand.const (Go.Value.bool false)], argTypes := #[2, 3, 4] }, type := 3, pos := "header.go:172", after := #[{ on := 18, ground := Go.Ground.data }, { on := 19, ground := Go.Ground.data }, { on := 16, ground := Go.Ground.chain }], guard := none }) rfl (fun K9 hK9 => ?_) AllReadyH.nil
      go_simp
      refine (specSmall _ _ _ _ (by decide)).mono ?_
      rintro e w' ⟨rfl, rfl⟩
      refine hK9.out _ _ (hHeld4) (fun hHeld5 => ?_)
      clear hK9 K9
      try simp only [Act.put, List.setIfInBounds_toArray, List.set_cons_zero, List.set_cons_succ]
      refine wpAnyH_ready (rs := [21]) (by kernel_rfl) (by simp) ?_
      refine AllReadyH.cons (o := { dst := some 136, op := Go.Op.buildSlice 27 6 #[(0, Go.Operand.tmp 115), (1, Go.Operand.tmp 119), (2, Go.Operand.tmp 123), (3, Go.Operand.tmp 127), (4, Go.Operand.tmp 131), (5, Go.Operand.tmp 135)], type := 27, pos := "header.go:172", after := #[{ on := 0, ground := Go.Ground.data }, { on := 4, ground := Go.Ground.data }, { on := 8, ground := Go.Ground.data }, { on := 12, ground := Go.Ground.data }, { on := 16, ground := Go.Ground.data }, { on := 20, ground := Go.Ground.data }], guard := none }) rfl (fun K9 hK9 => ?_) AllReadyH.nil
      rw [if_pos (by rfl)]
      refine bs6 (.tmp 115) (.tmp 119) (.tmp 123) (.tmp 127) (.tmp 131) (.tmp 135) rfl y3 (smallV h.mode 1 false) (smallV h.uid 1 true) (smallV h.gid 1 true) (smallV h.maj 1 false) (smallV h.min 1 false) rfl rfl rfl rfl rfl rfl ?_
      refine hK9.out _ _ (KA.out _ _ hHeld5) (fun hHeld6 => ?_)
      clear hK9 K9
      try simp only [Act.put, List.setIfInBounds_toArray, List.set_cons_zero, List.set_cons_succ]
      refine wpAnyH_ready (rs := [22]) (by kernel_rfl) (by simp) ?_
      refine AllReadyH.cons (o := { dst := some 137, op := Go.Op.call { callee := Go.Callee.value (Go.Operand.func 23), args := #[Go.Operand.tmp 136], argTypes := #[27] }, type := 3, pos := "header.go:172", after := #[{ on := 21, ground := Go.Ground.data }, { on := 20, ground := Go.Ground.chain }], guard := none }) rfl (fun K9 hK9 => ?_) AllReadyH.nil
      go_simp
      first | refine (all6d_1 _ _ _ _ _ _ _ _).mono ?_ | refine (all6 _ _ _ _ _ _ _ _).mono ?_
      rintro e w' ⟨rfl, rfl⟩
      refine hK9.out _ _ (hHeld6) (fun hHeld7 => ?_)
      clear hK9 K9
      try simp only [Act.put, List.setIfInBounds_toArray, List.set_cons_zero, List.set_cons_succ]
      refine wpAnyH_take (i := 23) (oi := { dst := some 5, op := Go.Op.assign (Go.Operand.tmp 137), type := 3, pos := "header.go:172", after := #[{ on := 22, ground := Go.Ground.data }, { on := 22, ground := Go.Ground.chain }, { on := 0, ground := Go.Ground.phase }, { on := 1, ground := Go.Ground.phase }, { on := 2, ground := Go.Ground.phase }, { on := 3, ground := Go.Ground.phase }, { on := 4, ground := Go.Ground.phase }, { on := 5, ground := Go.Ground.phase }, { on := 6, ground := Go.Ground.phase }, { on := 7, ground := Go.Ground.phase }, { on := 8, ground := Go.Ground.phase }, { on := 9, ground := Go.Ground.phase }, { on := 10, ground := Go.Ground.phase }, { on := 11, ground := Go.Ground.phase }, { on := 12, ground := Go.Ground.phase }, { on := 13, ground := Go.Ground.phase }, { on := 14, ground := Go.Ground.phase }, { on := 15, ground := Go.Ground.phase }, { on := 16, ground := Go.Ground.phase }, { on := 17, ground := Go.Ground.phase }, { on := 18, ground := Go.Ground.phase }, { on := 19, ground := Go.Ground.phase }, { on := 20, ground := Go.Ground.phase }, { on := 21, ground := Go.Ground.phase }, { on := 22, ground := Go.Ground.phase }], guard := none }) (v := .int .i64 (allV [y3, smallV h.mode 1 false, smallV h.uid 1 true, smallV h.gid 1 true, smallV h.maj 1 false, smallV h.min 1 false])) rfl (by kernel_rfl) (by kernel_rfl) (by kernel_rfl) (fun _ _ _ h => h) (Or.inl ⟨by rfl, fun w9 hS9 => ?_⟩) hHeld7 ?_
      · obtain ⟨g0, g1, g2, g3, g4, _⟩ := hS9
        go_simp
      simp only [Act.put, List.setIfInBounds_toArray, List.set_cons_zero, List.set_cons_succ]
      refine wpAnyH_done (by kernel_rfl) ?_ _
      go_wp2_with fail
      go_meet
      case rel => exact ⟨_, rfl, Lib.hid rfl, Lib.hid (KX.out _ hHeld7)⟩
    case rest => as_aux_lemma =>
    first | (rename_i oa ob oc od oe og oh oi oj ok ol om oo op oq os ot ou ov ow ox oy oz oA oB oC oD oE oF oG oH oI oJ oK oL oM oN oO oP oQ oR oS oT oU oV oW oX oY oZ o0 o1 o2 o3 o4 o5 o6 o7 o8 o9 pa pb pc pd pe pf pg ph pi pj pk pl pm pn po pp pq pr ps pt pu pv pw px py pz pA pB pC pD pE pF pG pH pI pJ pK pL pM pN pO pP pQ pR pS pT pU pV pW pX pY pZ p0 p1 p2 p3 p4 p5 p6 p7 p8 p9 qa qb qc qd qe qf qg qh qi qj qk ql qm qn qo qp qq qr qs qt qu qv qw qx qy qz qA qB qC qD qE qF qG qH qI qJ qK qL qM qN qO qP qQ qR qS qT qU qV qW qX qY qZ q0 q1 q2 q3 q4 q5 q6 q7 q8 q9 za zb zc zd ze zf zg zh zi zj zk zl zm zn zo zp zq zr zs zt zu zv zw zx zy zz zA zB zC zD zE zF zG zH zI zJ zK zL zM zN zO zP zQ _ _; clear oa ob oc od oe og oh oi oj ok ol om oo op oq os ot ou ov ow ox oy oz oA oB oC oD oE oF oG oH oI oJ oK oL oM oN oO oP oQ oR oS oT oU oV oW oX oY oZ o0 o1 o2 o3 o4 o5 o6 o7 o8 o9 pa pb pc pd pe pf pg ph pi pj pk pl pm pn po pp pq pr ps pt pu pv pw px py pz pA pB pC pD pE pF pG pH pI pJ pK pL pM pN pO pP pQ pR pS pT pU pV pW pX pY pZ p0 p1 p2 p3 p4 p5 p6 p7 p8 p9 qa qb qc qd qe qf qg qh qi qj qk ql qm qn qo qp qq qr qs qt qu qv qw qx qy qz qA qB qC qD qE qF qG qH qI qJ qK qL qM qN qO qP qQ qR qS qT qU qV qW qX qY qZ q0 q1 q2 q3 q4 q5 q6 q7 q8 q9 za zb zc zd ze zf zg zh zi zj zk zl zm zn zo zp zq zr zs zt zu zv zw zx zy zz zA zB zC zD zE zF zG zH zI zJ zK zL zM zN zO zP zQ)
    obtain ⟨y4, rfl, HY4, HXN⟩ := hcut
    clear KS KA KB KX
    obtain ⟨w6, hwn⟩ : ∃ w5, w5 = wc := ⟨_, rfl⟩
    subst hwn
    have HB6 : Hid (Blk w6 H 32 h.prom.cells) := Lib.hid (HB5.out.below HXN.out HB5.out.lt)
    have HW6 : Hid (Below w.heap.size w w6) := Lib.hid (HW5.out.trans (HXN.out.mono HW5.out.size))
    clear HB5 HW5 HXN
    obtain ⟨SZ, hSZ⟩ : ∃ x, h.size = x := ⟨_, rfl⟩
    have HSZ := Lib.hid hSZ
    have KS : Hid (∀ w', Below w6.heap.size w6 w' → w'.cell? ⟨H, 3, none⟩ = some (.int .i64 SZ) ∧ w'.cell? ⟨H, 0, none⟩ = some (.int .u8 t) ∧ w'.cell? ⟨H, 9, none⟩ = some (.int .i64 h.ms) ∧ w'.cell? ⟨H, 10, none⟩ = some (.int .i64 h.mn) ∧ Below w6.heap.size w6 w') := Lib.hid (fun w' hb => by
      have hB := HB6.out.below hb HB6.out.lt
      exact ⟨by rw [← hSZ]; exact hB.cell 3, by rw [← HT.out]; exact hB.cell 0, hB.cell 9, hB.cell 10, hb⟩)
    have KA : Hid (∀ w' o, (w'.cell? ⟨H, 3, none⟩ = some (.int .i64 SZ) ∧ w'.cell? ⟨H, 0, none⟩ = some (.int .u8 t) ∧ w'.cell? ⟨H, 9, none⟩ = some (.int .i64 h.ms) ∧ w'.cell? ⟨H, 10, none⟩ = some (.int .i64 h.mn) ∧ Below w6.heap.size w6 w') → _) := Lib.hid (fun w' o h => KS.out (w'.alloc o) (h.2.2.2.2.alloc h.2.2.2.2.size o))
    have KB : Hid (∀ w' w'', (w'.cell? ⟨H, 3, none⟩ = some (.int .i64 SZ) ∧ w'.cell? ⟨H, 0, none⟩ = some (.int .u8 t) ∧ w'.cell? ⟨H, 9, none⟩ = some (.int .i64 h.ms) ∧ w'.cell? ⟨H, 10, none⟩ = some (.int .i64 h.mn) ∧ Below w6.heap.size w6 w') → Below w'.heap.size w' w'' → _) := Lib.hid (fun w' w'' h hb => KS.out w'' (h.2.2.2.2.trans (hb.mono h.2.2.2.2.size)))
    have KX : Hid (∀ w', (w'.cell? ⟨H, 3, none⟩ = some (.int .i64 SZ) ∧ w'.cell? ⟨H, 0, none⟩ = some (.int .u8 t) ∧ w'.cell? ⟨H, 9, none⟩ = some (.int .i64 h.ms) ∧ w'.cell? ⟨H, 10, none⟩ = some (.int .i64 h.mn) ∧ Below w6.heap.size w6 w') → Below w6.heap.size w6 w') := Lib.hid (fun w' h => h.2.2.2.2)
    obtain ⟨hd, hhd⟩ : ∃ b, hasD t = b := ⟨_, rfl⟩
    have HHD := fun w => Lib.hid (specHasData t w)
    rw [hhd] at HHD
    have HHV := Lib.hid hhd
    clear hSZ hhd
    go_upto_region 14 with fail
    go_cut [5] (fun v wx => ∃ y : Int, v = .int .i64 y ∧ Hid (y = allV [y4, whenV ((decide (0 ≤ SZ) || !hd) && (decide ((1 : Int) ≠ 1) || decide (SZ < 8589934592))), momentV h.ms h.mn 1]) ∧ Hid (Below w6.heap.size w6 wx))
    case first => as_aux_lemma =>
      by_cases s0 : 0 ≤ SZ
      · skip
        refine wp_region_held_drew (S := fun w' => w'.cell? ⟨H, 3, none⟩ = some (.int .i64 SZ) ∧ w'.cell? ⟨H, 0, none⟩ = some (.int .u8 t) ∧ w'.cell? ⟨H, 9, none⟩ = some (.int .i64 h.ms) ∧ w'.cell? ⟨H, 10, none⟩ = some (.int .i64 h.mn) ∧ Below w6.heap.size w6 w') (by kernel_rfl) (KS.out _ ((Below.refl _ w6).drew)) (fun hHeld => ?_)
        refine wpAnyH_take (i := 0) (oi := { dst := some 138, op := Go.Op.move (Go.Operand.tmp 5), type := 3, pos := "header.go:173", after := #[], guard := none }) (v := .int .i64 y4) rfl (by kernel_rfl) (by kernel_rfl) (by kernel_rfl) (fun _ _ _ h => h) (Or.inl ⟨by rfl, fun w9 hS9 => ?_⟩) hHeld ?_
        · obtain ⟨g0, g1, g2, g3, _⟩ := hS9
          go_simp
        simp only [Act.put, List.setIfInBounds_toArray, List.set_cons_zero, List.set_cons_succ]
        refine wpAnyH_take (i := 1) (oi := { dst := some 139, op := Go.Op.fieldAddr 32 (Go.Operand.tmp 2) 3, type := 0, pos := "header.go:173", after := #[], guard := none }) (v := .pointer (some ⟨H, 3, none⟩)) rfl (by kernel_rfl) (by kernel_rfl) (by kernel_rfl) (fun _ _ _ h => h) (Or.inl ⟨by rfl, fun w9 hS9 => ?_⟩) hHeld ?_
        · obtain ⟨g0, g1, g2, g3, _⟩ := hS9
          go_simp
        simp only [Act.put, List.setIfInBounds_toArray, List.set_cons_zero, List.set_cons_succ]
        refine wpAnyH_take (i := 2) (oi := { dst := some 140, op := Go.Op.load 2 (Go.Operand.tmp 139), type := 2, pos := "header.go:173", after := #[{ on := 1, ground := Go.Ground.data }], guard := none }) (v := .int .i64 SZ) rfl (by kernel_rfl) (by kernel_rfl) (by kernel_rfl) (fun _ _ _ h => h) (Or.inl ⟨by rfl, fun w9 hS9 => ?_⟩) hHeld ?_
        · obtain ⟨g0, g1, g2, g3, _⟩ := hS9
          go_simp
        simp only [Act.put, List.setIfInBounds_toArray, List.set_cons_zero, List.set_cons_succ]
        refine wpAnyH_take (i := 3) (oi := { dst := some 141, op := Go.Op.binOp Go.BinOp.geq 2 (Go.Operand.tmp 140) (Go.Operand.const (Go.Value.int Go.IntKind.i64 0)) 2, type := 4, pos := "header.go:173", after := #[{ on := 2, ground := Go.Ground.data }], guard := none }) (v := .bool true) rfl (by kernel_rfl) (by kernel_rfl) (by kernel_rfl) (fun _ _ _ h => h) (Or.inl ⟨by rfl, fun w9 hS9 => ?_⟩) hHeld ?_
        · obtain ⟨g0, g1, g2, g3, _⟩ := hS9
          go_simp
        simp only [Act.put, List.setIfInBounds_toArray, List.set_cons_zero, List.set_cons_succ]
        refine wpAnyH_take (i := 4) (oi := { dst := some 142, op := Go.Op.move (Go.Operand.tmp 141), type := 4, pos := "header.go:173", after := #[{ on := 3, ground := Go.Ground.data }], guard := none }) (v := .bool true) rfl (by kernel_rfl) (by kernel_rfl) (by kernel_rfl) (fun _ _ _ h => h) (Or.inl ⟨by rfl, fun w9 hS9 => ?_⟩) hHeld ?_
        · obtain ⟨g0, g1, g2, g3, _⟩ := hS9
          go_simp
        simp only [Act.put, List.setIfInBounds_toArray, List.set_cons_zero, List.set_cons_succ]
        refine wpAnyH_take (i := 5) (oi := { dst := some 143, op := Go.Op.fieldAddr 32 (Go.Operand.tmp 2) 0, type := 0, pos := "header.go:173", after := #[{ on := 4, ground := Go.Ground.guard }], guard := some (4, false) }) (v := undef) rfl (by kernel_rfl) (by kernel_rfl) (by kernel_rfl) (fun _ _ _ h => h) (Or.inr ⟨by rfl, rfl⟩) hHeld ?_
        simp only [Act.put, List.setIfInBounds_toArray, List.set_cons_zero, List.set_cons_succ]
        refine wpAnyH_take (i := 6) (oi := { dst := some 144, op := Go.Op.load 5 (Go.Operand.tmp 143), type := 5, pos := "header.go:173", after := #[{ on := 5, ground := Go.Ground.data }, { on := 4, ground := Go.Ground.guard }], guard := some (4, false) }) (v := undef) rfl (by kernel_rfl) (by kernel_rfl) (by kernel_rfl) (fun _ _ _ h => h) (Or.inr ⟨by rfl, rfl⟩) hHeld ?_
        simp only [Act.put, List.setIfInBounds_toArray, List.set_cons_zero, List.set_cons_succ]
        refine wpAnyH_take (i := 7) (oi := { dst := some 145, op := Go.Op.call { callee := Go.Callee.value (Go.Operand.func 26), args := #[Go.Operand.tmp 144], argTypes := #[5] }, type := 4, pos := "header.go:173", after := #[{ on := 6, ground := Go.Ground.data }, { on := 4, ground := Go.Ground.chain }, { on := 4, ground := Go.Ground.guard }], guard := some (4, false) }) (v := undef) rfl (by kernel_rfl) (by kernel_rfl) (by kernel_rfl) (fun _ _ _ h => h) (Or.inr ⟨by rfl, rfl⟩) hHeld ?_
        simp only [Act.put, List.setIfInBounds_toArray, List.set_cons_zero, List.set_cons_succ]
        refine wpAnyH_take (i := 8) (oi := { dst := some 146, op := Go.Op.unOp Go.UnOp.not 4 (Go.Operand.tmp 145), type := 4, pos := "header.go:173", after := #[{ on := 7, ground := Go.Ground.data }, { on := 4, ground := Go.Ground.guard }], guard := some (4, false) }) (v := undef) rfl (by kernel_rfl) (by kernel_rfl) (by kernel_rfl) (fun _ _ _ h => h) (Or.inr ⟨by rfl, rfl⟩) hHeld ?_
        simp only [Act.put, List.setIfInBounds_toArray, List.set_cons_zero, List.set_cons_succ]
        refine wpAnyH_take (i := 9) (oi := { dst := some 147, op := Go.Op.pick (Go.Operand.tmp 142) (Go.Operand.const (Go.Value.bool true)) (Go.Operand.tmp 146), type := 4, pos := "header.go:173", after := #[{ on := 4, ground := Go.Ground.data }, { on := 8, ground := Go.Ground.data }], guard := none }) (v := .bool true) rfl (by kernel_rfl) (by kernel_rfl) (by kernel_rfl) (fun _ _ _ h => h) (Or.inl ⟨by rfl, fun w9 hS9 => ?_⟩) hHeld ?_
        · obtain ⟨g0, g1, g2, g3, _⟩ := hS9
          go_simp
        simp only [Act.put, List.setIfInBounds_toArray, List.set_cons_zero, List.set_cons_succ]
        refine wpAnyH_take (i := 10) (oi := { dst := some 148, op := Go.Op.move (Go.Operand.tmp 147), type := 4, pos := "header.go:173", after := #[{ on := 9, ground := Go.Ground.data }, { on := 7, ground := Go.Ground.chain }], guard := none }) (v := .bool true) rfl (by kernel_rfl) (by kernel_rfl) (by kernel_rfl) (fun _ _ _ h => h) (Or.inl ⟨by rfl, fun w9 hS9 => ?_⟩) hHeld ?_
        · obtain ⟨g0, g1, g2, g3, _⟩ := hS9
          go_simp
        simp only [Act.put, List.setIfInBounds_toArray, List.set_cons_zero, List.set_cons_succ]
        refine wpAnyH_take (i := 11) (oi := { dst := some 149, op := Go.Op.move (Go.Operand.tmp 1), type := 3, pos := "header.go:173", after := #[{ on := 10, ground := Go.Ground.guard }], guard := some (10, true) }) (v := .int .i64 1) rfl (by kernel_rfl) (by kernel_rfl) (by kernel_rfl) (fun _ _ _ h => h) (Or.inl ⟨by rfl, fun w9 hS9 => ?_⟩) hHeld ?_
        · obtain ⟨g0, g1, g2, g3, _⟩ := hS9
          go_simp
        simp only [Act.put, List.setIfInBounds_toArray, List.set_cons_zero, List.set_cons_succ]
        refine wpAnyH_take (i := 12) (oi := { dst := some 150, op := Go.Op.binOp Go.BinOp.neq 3 (Go.Operand.tmp 149) (Go.Operand.const (Go.Value.int Go.IntKind.i64 1)) 3, type := 4, pos := "header.go:173", after := #[{ on := 11, ground := Go.Ground.data }, { on := 10, ground := Go.Ground.guard }], guard := some (10, true) }) (v := .bool false) rfl (by kernel_rfl) (by kernel_rfl) (by kernel_rfl) (fun _ _ _ h => h) (Or.inl ⟨by rfl, fun w9 hS9 => ?_⟩) hHeld ?_
        · obtain ⟨g0, g1, g2, g3, _⟩ := hS9
          go_simp
        simp only [Act.put, List.setIfInBounds_toArray, List.set_cons_zero, List.set_cons_succ]
        refine wpAnyH_take (i := 13) (oi := { dst := some 151, op := Go.Op.move (Go.Operand.tmp 150), type := 4, pos := "header.go:173", after := #[{ on := 12, ground := Go.Ground.data }, { on := 10, ground := Go.Ground.chain }, { on := 10, ground := Go.Ground.guard }], guard := some (10, true) }) (v := .bool false) rfl (by kernel_rfl) (by kernel_rfl) (by kernel_rfl) (fun _ _ _ h => h) (Or.inl ⟨by rfl, fun w9 hS9 => ?_⟩) hHeld ?_
        · obtain ⟨g0, g1, g2, g3, _⟩ := hS9
          go_simp
        simp only [Act.put, List.setIfInBounds_toArray, List.set_cons_zero, List.set_cons_succ]
        refine wpAnyH_take (i := 14) (oi := { dst := some 152, op := Go.Op.fieldAddr 32 (Go.Operand.tmp 2) 3, type := 0, pos := "header.go:173", after := #[{ on := 13, ground := Go.Ground.guard }], guard := some (13, false) }) (v := .pointer (some ⟨H, 3, none⟩)) rfl (by kernel_rfl) (by kernel_rfl) (by kernel_rfl) (fun _ _ _ h => h) (Or.inl ⟨by rfl, fun w9 hS9 => ?_⟩) hHeld ?_
        · obtain ⟨g0, g1, g2, g3, _⟩ := hS9
          go_simp
        simp only [Act.put, List.setIfInBounds_toArray, List.set_cons_zero, List.set_cons_succ]
        refine wpAnyH_take (i := 15) (oi := { dst := some 153, op := Go.Op.load 2 (Go.Operand.tmp 152), type := 2, pos := "header.go:173", after := #[{ on := 14, ground := Go.Ground.data }, { on := 13, ground := Go.Ground.guard }], guard := some (13, false) }) (v := .int .i64 SZ) rfl (by kernel_rfl) (by kernel_rfl) (by kernel_rfl) (fun _ _ _ h => h) (Or.inl ⟨by rfl, fun w9 hS9 => ?_⟩) hHeld ?_
        · obtain ⟨g0, g1, g2, g3, _⟩ := hS9
          go_simp
        simp only [Act.put, List.setIfInBounds_toArray, List.set_cons_zero, List.set_cons_succ]
        refine wpAnyH_take (i := 16) (oi := { dst := some 154, op := Go.Op.binOp Go.BinOp.lss 2 (Go.Operand.tmp 153) (Go.Operand.const (Go.Value.int Go.IntKind.i64 8589934592)) 2, type := 4, pos := "header.go:173", after := #[{ on := 15, ground := Go.Ground.data }, { on := 13, ground := Go.Ground.guard }], guard := some (13, false) }) (v := .bool (decide (SZ < 8589934592))) rfl (by kernel_rfl) (by kernel_rfl) (by kernel_rfl) (fun _ _ _ h => h) (Or.inl ⟨by rfl, fun w9 hS9 => ?_⟩) hHeld ?_
        · obtain ⟨g0, g1, g2, g3, _⟩ := hS9
          go_simp
        simp only [Act.put, List.setIfInBounds_toArray, List.set_cons_zero, List.set_cons_succ]
        refine wpAnyH_take (i := 17) (oi := { dst := some 155, op := Go.Op.pick (Go.Operand.tmp 151) (Go.Operand.const (Go.Value.bool true)) (Go.Operand.tmp 154), type := 4, pos := "header.go:173", after := #[{ on := 13, ground := Go.Ground.data }, { on := 16, ground := Go.Ground.data }, { on := 10, ground := Go.Ground.guard }], guard := some (10, true) }) (v := .bool (decide (SZ < 8589934592))) rfl (by kernel_rfl) (by kernel_rfl) (by kernel_rfl) (fun _ _ _ h => h) (Or.inl ⟨by rfl, fun w9 hS9 => ?_⟩) hHeld ?_
        · obtain ⟨g0, g1, g2, g3, _⟩ := hS9
          go_simp
        simp only [Act.put, List.setIfInBounds_toArray, List.set_cons_zero, List.set_cons_succ]
        refine wpAnyH_take (i := 18) (oi := { dst := some 156, op := Go.Op.pick (Go.Operand.tmp 148) (Go.Operand.tmp 155) (Go.Operand.const (Go.Value.bool false)), type := 4, pos := "header.go:173", after := #[{ on := 10, ground := Go.Ground.data }, { on := 17, ground := Go.Ground.data }], guard := none }) (v := .bool (decide (SZ < 8589934592))) rfl (by kernel_rfl) (by kernel_rfl) (by kernel_rfl) (fun _ _ _ h => h) (Or.inl ⟨by rfl, fun w9 hS9 => ?_⟩) hHeld ?_
        · obtain ⟨g0, g1, g2, g3, _⟩ := hS9
          go_simp
        simp only [Act.put, List.setIfInBounds_toArray, List.set_cons_zero, List.set_cons_succ]
        refine wpAnyH_take (i := 20) (oi := { dst := some 158, op := Go.Op.fieldAddr 32 (Go.Operand.tmp 2) 9, type := 0, pos := "header.go:173", after := #[], guard := none }) (v := .pointer (some ⟨H, 9, none⟩)) rfl (by kernel_rfl) (by kernel_rfl) (by kernel_rfl) (fun _ _ _ h => h) (Or.inl ⟨by rfl, fun w9 hS9 => ?_⟩) hHeld ?_
        · obtain ⟨g0, g1, g2, g3, _⟩ := hS9
          go_simp
        simp only [Act.put, List.setIfInBounds_toArray, List.set_cons_zero, List.set_cons_succ]
        refine wpAnyH_take (i := 21) (oi := { dst := some 159, op := Go.Op.load 29 (Go.Operand.tmp 158), type := 29, pos := "header.go:173", after := #[{ on := 20, ground := Go.Ground.data }], guard := none }) (v := .agg #[.int .i64 h.ms, .int .i64 h.mn]) rfl (by kernel_rfl) (by kernel_rfl) (by kernel_rfl) (fun _ _ _ h => h) (Or.inl ⟨by rfl, fun w9 hS9 => ?_⟩) hHeld ?_
        · obtain ⟨g0, g1, g2, g3, _⟩ := hS9
          go_simp
        simp only [Act.put, List.setIfInBounds_toArray, List.set_cons_zero, List.set_cons_succ]
        refine wpAnyH_take (i := 22) (oi := { dst := some 160, op := Go.Op.move (Go.Operand.tmp 1), type := 3, pos := "header.go:173", after := #[], guard := none }) (v := .int .i64 1) rfl (by kernel_rfl) (by kernel_rfl) (by kernel_rfl) (fun _ _ _ h => h) (Or.inl ⟨by rfl, fun w9 hS9 => ?_⟩) hHeld ?_
        · obtain ⟨g0, g1, g2, g3, _⟩ := hS9
          go_simp
        simp only [Act.put, List.setIfInBounds_toArray, List.set_cons_zero, List.set_cons_succ]
        refine wpAnyH_ready (rs := [19]) (by kernel_rfl) (by simp) ?_
        refine AllReadyH.cons (o := { dst := some 157, op := Go.Op.call { callee := Go.Callee.value (Go.Operand.func 21), args := #[Go.Operand.tmp 156], argTypes := #[4] }, type := 3, pos := "header.go:173", after := #[{ on := 18, ground := Go.Ground.data }, { on := 13, ground := Go.Ground.chain }], guard := none }) rfl (fun K9 hK9 => ?_) AllReadyH.nil
        go_simp
        refine (specWhen _ _).mono ?_
        rintro e w' ⟨rfl, rfl⟩
        refine hK9.out _ _ (hHeld) (fun hHeld1 => ?_)
        clear hK9 K9
        try simp only [Act.put, List.setIfInBounds_toArray, List.set_cons_zero, List.set_cons_succ]
        refine wpAnyH_ready (rs := [23]) (by kernel_rfl) (by simp) ?_
        refine AllReadyH.cons (o := { dst := some 161, op := Go.Op.call { callee := Go.Callee.value (Go.Operand.func 27), args := #[Go.Operand.tmp 159, Go.Operand.tmp 160], argTypes := #[29, 3] }, type := 3, pos := "header.go:173", after := #[{ on := 21, ground := Go.Ground.data }, { on := 22, ground := Go.Ground.data }, { on := 19, ground := Go.Ground.chain }], guard := none }) rfl (fun K9 hK9 => ?_) AllReadyH.nil
        go_simp
        refine (specMoment h.ms h.mn 1 _).mono ?_
        rintro e w' ⟨rfl, hbo⟩
        refine hK9.out _ _ (KB.out _ _ hHeld1 hbo) (fun hHeld2 => ?_)
        clear hK9 K9
        try simp only [Act.put, List.setIfInBounds_toArray, List.set_cons_zero, List.set_cons_succ]
        refine wpAnyH_ready (rs := [24]) (by kernel_rfl) (by simp) ?_
        refine AllReadyH.cons (o := { dst := some 162, op := Go.Op.buildSlice 27 3 #[(0, Go.Operand.tmp 138), (1, Go.Operand.tmp 157), (2, Go.Operand.tmp 161)], type := 27, pos := "header.go:173", after := #[{ on := 0, ground := Go.Ground.data }, { on := 19, ground := Go.Ground.data }, { on := 23, ground := Go.Ground.data }], guard := none }) rfl (fun K9 hK9 => ?_) AllReadyH.nil
        go_simp
        refine hK9.out _ _ (KA.out _ _ hHeld2) (fun hHeld3 => ?_)
        clear hK9 K9
        try simp only [Act.put, List.setIfInBounds_toArray, List.set_cons_zero, List.set_cons_succ]
        refine wpAnyH_ready (rs := [25]) (by kernel_rfl) (by simp) ?_
        refine AllReadyH.cons (o := { dst := some 163, op := Go.Op.call { callee := Go.Callee.value (Go.Operand.func 23), args := #[Go.Operand.tmp 162], argTypes := #[27] }, type := 3, pos := "header.go:173", after := #[{ on := 24, ground := Go.Ground.data }, { on := 23, ground := Go.Ground.chain }], guard := none }) rfl (fun K9 hK9 => ?_) AllReadyH.nil
        go_simp
        refine (all3 _ _ _ _ _).mono ?_
        rintro e w' ⟨rfl, rfl⟩
        refine hK9.out _ _ (hHeld3) (fun hHeld4 => ?_)
        clear hK9 K9
        try simp only [Act.put, List.setIfInBounds_toArray, List.set_cons_zero, List.set_cons_succ]
        refine wpAnyH_take (i := 26) (oi := { dst := some 5, op := Go.Op.assign (Go.Operand.tmp 163), type := 3, pos := "header.go:173", after := #[{ on := 25, ground := Go.Ground.data }, { on := 25, ground := Go.Ground.chain }, { on := 0, ground := Go.Ground.phase }, { on := 1, ground := Go.Ground.phase }, { on := 2, ground := Go.Ground.phase }, { on := 3, ground := Go.Ground.phase }, { on := 4, ground := Go.Ground.phase }, { on := 5, ground := Go.Ground.phase }, { on := 6, ground := Go.Ground.phase }, { on := 7, ground := Go.Ground.phase }, { on := 8, ground := Go.Ground.phase }, { on := 9, ground := Go.Ground.phase }, { on := 10, ground := Go.Ground.phase }, { on := 11, ground := Go.Ground.phase }, { on := 12, ground := Go.Ground.phase }, { on := 13, ground := Go.Ground.phase }, { on := 14, ground := Go.Ground.phase }, { on := 15, ground := Go.Ground.phase }, { on := 16, ground := Go.Ground.phase }, { on := 17, ground := Go.Ground.phase }, { on := 18, ground := Go.Ground.phase }, { on := 19, ground := Go.Ground.phase }, { on := 20, ground := Go.Ground.phase }, { on := 21, ground := Go.Ground.phase }, { on := 22, ground := Go.Ground.phase }, { on := 23, ground := Go.Ground.phase }, { on := 24, ground := Go.Ground.phase }, { on := 25, ground := Go.Ground.phase }], guard := none }) (v := .int .i64 (allV [y4, whenV (decide (SZ < 8589934592)), momentV h.ms h.mn 1])) rfl (by kernel_rfl) (by kernel_rfl) (by kernel_rfl) (fun _ _ _ h => h) (Or.inl ⟨by rfl, fun w9 hS9 => ?_⟩) hHeld4 ?_
        · obtain ⟨g0, g1, g2, g3, _⟩ := hS9
          go_simp
        simp only [Act.put, List.setIfInBounds_toArray, List.set_cons_zero, List.set_cons_succ]
        refine wpAnyH_done (by kernel_rfl) ?_ _
        go_wp2_with fail
        go_meet
        case rel => exact ⟨_, rfl, Lib.hid (by simp [s0]), Lib.hid (KX.out _ hHeld4)⟩
      · cases hd with
        | true =>
          refine wp_region_held_drew (S := fun w' => w'.cell? ⟨H, 3, none⟩ = some (.int .i64 SZ) ∧ w'.cell? ⟨H, 0, none⟩ = some (.int .u8 t) ∧ w'.cell? ⟨H, 9, none⟩ = some (.int .i64 h.ms) ∧ w'.cell? ⟨H, 10, none⟩ = some (.int .i64 h.mn) ∧ Below w6.heap.size w6 w') (by kernel_rfl) (KS.out _ ((Below.refl _ w6).drew)) (fun hHeld => ?_)
          refine wpAnyH_take (i := 0) (oi := { dst := some 138, op := Go.Op.move (Go.Operand.tmp 5), type := 3, pos := "header.go:173", after := #[], guard := none }) (v := .int .i64 y4) rfl (by kernel_rfl) (by kernel_rfl) (by kernel_rfl) (fun _ _ _ h => h) (Or.inl ⟨by rfl, fun w9 hS9 => ?_⟩) hHeld ?_
          · obtain ⟨g0, g1, g2, g3, _⟩ := hS9
            go_simp
          simp only [Act.put, List.setIfInBounds_toArray, List.set_cons_zero, List.set_cons_succ]
          refine wpAnyH_take (i := 1) (oi := { dst := some 139, op := Go.Op.fieldAddr 32 (Go.Operand.tmp 2) 3, type := 0, pos := "header.go:173", after := #[], guard := none }) (v := .pointer (some ⟨H, 3, none⟩)) rfl (by kernel_rfl) (by kernel_rfl) (by kernel_rfl) (fun _ _ _ h => h) (Or.inl ⟨by rfl, fun w9 hS9 => ?_⟩) hHeld ?_
          · obtain ⟨g0, g1, g2, g3, _⟩ := hS9
            go_simp
          simp only [Act.put, List.setIfInBounds_toArray, List.set_cons_zero, List.set_cons_succ]
          refine wpAnyH_take (i := 2) (oi := { dst := some 140, op := Go.Op.load 2 (Go.Operand.tmp 139), type := 2, pos := "header.go:173", after := #[{ on := 1, ground := Go.Ground.data }], guard := none }) (v := .int .i64 SZ) rfl (by kernel_rfl) (by kernel_rfl) (by kernel_rfl) (fun _ _ _ h => h) (Or.inl ⟨by rfl, fun w9 hS9 => ?_⟩) hHeld ?_
          · obtain ⟨g0, g1, g2, g3, _⟩ := hS9
            go_simp
          simp only [Act.put, List.setIfInBounds_toArray, List.set_cons_zero, List.set_cons_succ]
          refine wpAnyH_take (i := 3) (oi := { dst := some 141, op := Go.Op.binOp Go.BinOp.geq 2 (Go.Operand.tmp 140) (Go.Operand.const (Go.Value.int Go.IntKind.i64 0)) 2, type := 4, pos := "header.go:173", after := #[{ on := 2, ground := Go.Ground.data }], guard := none }) (v := .bool false) rfl (by kernel_rfl) (by kernel_rfl) (by kernel_rfl) (fun _ _ _ h => h) (Or.inl ⟨by rfl, fun w9 hS9 => ?_⟩) hHeld ?_
          · obtain ⟨g0, g1, g2, g3, _⟩ := hS9
            go_simp
          simp only [Act.put, List.setIfInBounds_toArray, List.set_cons_zero, List.set_cons_succ]
          refine wpAnyH_take (i := 4) (oi := { dst := some 142, op := Go.Op.move (Go.Operand.tmp 141), type := 4, pos := "header.go:173", after := #[{ on := 3, ground := Go.Ground.data }], guard := none }) (v := .bool false) rfl (by kernel_rfl) (by kernel_rfl) (by kernel_rfl) (fun _ _ _ h => h) (Or.inl ⟨by rfl, fun w9 hS9 => ?_⟩) hHeld ?_
          · obtain ⟨g0, g1, g2, g3, _⟩ := hS9
            go_simp
          simp only [Act.put, List.setIfInBounds_toArray, List.set_cons_zero, List.set_cons_succ]
          refine wpAnyH_take (i := 5) (oi := { dst := some 143, op := Go.Op.fieldAddr 32 (Go.Operand.tmp 2) 0, type := 0, pos := "header.go:173", after := #[{ on := 4, ground := Go.Ground.guard }], guard := some (4, false) }) (v := .pointer (some ⟨H, 0, none⟩)) rfl (by kernel_rfl) (by kernel_rfl) (by kernel_rfl) (fun _ _ _ h => h) (Or.inl ⟨by rfl, fun w9 hS9 => ?_⟩) hHeld ?_
          · obtain ⟨g0, g1, g2, g3, _⟩ := hS9
            go_simp
          simp only [Act.put, List.setIfInBounds_toArray, List.set_cons_zero, List.set_cons_succ]
          refine wpAnyH_take (i := 6) (oi := { dst := some 144, op := Go.Op.load 5 (Go.Operand.tmp 143), type := 5, pos := "header.go:173", after := #[{ on := 5, ground := Go.Ground.data }, { on := 4, ground := Go.Ground.guard }], guard := some (4, false) }) (v := .int .u8 t) rfl (by kernel_rfl) (by kernel_rfl) (by kernel_rfl) (fun _ _ _ h => h) (Or.inl ⟨by rfl, fun w9 hS9 => ?_⟩) hHeld ?_
          · obtain ⟨g0, g1, g2, g3, _⟩ := hS9
            go_simp
          simp only [Act.put, List.setIfInBounds_toArray, List.set_cons_zero, List.set_cons_succ]
          refine wpAnyH_take (i := 20) (oi := { dst := some 158, op := Go.Op.fieldAddr 32 (Go.Operand.tmp 2) 9, type := 0, pos := "header.go:173", after := #[], guard := none }) (v := .pointer (some ⟨H, 9, none⟩)) rfl (by kernel_rfl) (by kernel_rfl) (by kernel_rfl) (fun _ _ _ h => h) (Or.inl ⟨by rfl, fun w9 hS9 => ?_⟩) hHeld ?_
          · obtain ⟨g0, g1, g2, g3, _⟩ := hS9
            go_simp
          simp only [Act.put, List.setIfInBounds_toArray, List.set_cons_zero, List.set_cons_succ]
          refine wpAnyH_take (i := 21) (oi := { dst := some 159, op := Go.Op.load 29 (Go.Operand.tmp 158), type := 29, pos := "header.go:173", after := #[{ on := 20, ground := Go.Ground.data }], guard := none }) (v := .agg #[.int .i64 h.ms, .int .i64 h.mn]) rfl (by kernel_rfl) (by kernel_rfl) (by kernel_rfl) (fun _ _ _ h => h) (Or.inl ⟨by rfl, fun w9 hS9 => ?_⟩) hHeld ?_
          · obtain ⟨g0, g1, g2, g3, _⟩ := hS9
            go_simp
          simp only [Act.put, List.setIfInBounds_toArray, List.set_cons_zero, List.set_cons_succ]
          refine wpAnyH_take (i := 22) (oi := { dst := some 160, op := Go.Op.move (Go.Operand.tmp 1), type := 3, pos := "header.go:173", after := #[], guard := none }) (v := .int .i64 1) rfl (by kernel_rfl) (by kernel_rfl) (by kernel_rfl) (fun _ _ _ h => h) (Or.inl ⟨by rfl, fun w9 hS9 => ?_⟩) hHeld ?_
          · obtain ⟨g0, g1, g2, g3, _⟩ := hS9
            go_simp
          simp only [Act.put, List.setIfInBounds_toArray, List.set_cons_zero, List.set_cons_succ]
          refine wpAnyH_ready (rs := [7]) (by kernel_rfl) (by simp) ?_
          refine AllReadyH.cons (o := { dst := some 145, op := Go.Op.call { callee := Go.Callee.value (Go.Operand.func 26), args := #[Go.Operand.tmp 144], argTypes := #[5] }, type := 4, pos := "header.go:173", after := #[{ on := 6, ground := Go.Ground.data }, { on := 4, ground := Go.Ground.chain }, { on := 4, ground := Go.Ground.guard }], guard := some (4, false) }) rfl (fun K9 hK9 => ?_) AllReadyH.nil
          go_simp
          refine (HHD _).out.mono ?_
          rintro e w' ⟨rfl, rfl⟩
          refine hK9.out _ _ (hHeld) (fun hHeld1 => ?_)
          clear hK9 K9
          try simp only [Act.put, List.setIfInBounds_toArray, List.set_cons_zero, List.set_cons_succ]
          refine wpAnyH_take (i := 8) (oi := { dst := some 146, op := Go.Op.unOp Go.UnOp.not 4 (Go.Operand.tmp 145), type := 4, pos := "header.go:173", after := #[{ on := 7, ground := Go.Ground.data }, { on := 4, ground := Go.Ground.guard }], guard := some (4, false) }) (v := .bool false) rfl (by kernel_rfl) (by kernel_rfl) (by kernel_rfl) (fun _ _ _ h => h) (Or.inl ⟨by rfl, fun w9 hS9 => ?_⟩) hHeld1 ?_
          · obtain ⟨g0, g1, g2, g3, _⟩ := hS9
            go_simp
          simp only [Act.put, List.setIfInBounds_toArray, List.set_cons_zero, List.set_cons_succ]
          refine wpAnyH_take (i := 9) (oi := { dst := some 147, op := Go.Op.pick (Go.Operand.tmp 142) (Go.Operand.const (Go.Value.bool true)) (Go.Operand.tmp 146), type := 4, pos := "header.go:173", after := #[{ on := 4, ground := Go.Ground.data }, { on := 8, ground := Go.Ground.data }], guard := none }) (v := .bool false) rfl (by kernel_rfl) (by kernel_rfl) (by kernel_rfl) (fun _ _ _ h => h) (Or.inl ⟨by rfl, fun w9 hS9 => ?_⟩) hHeld1 ?_
          · obtain ⟨g0, g1, g2, g3, _⟩ := hS9
            go_simp
          simp only [Act.put, List.setIfInBounds_toArray, List.set_cons_zero, List.set_cons_succ]
          refine wpAnyH_take (i := 10) (oi := { dst := some 148, op := Go.Op.move (Go.Operand.tmp 147), type := 4, pos := "header.go:173", after := #[{ on := 9, ground := Go.Ground.data }, { on := 7, ground := Go.Ground.chain }], guard := none }) (v := .bool false) rfl (by kernel_rfl) (by kernel_rfl) (by kernel_rfl) (fun _ _ _ h => h) (Or.inl ⟨by rfl, fun w9 hS9 => ?_⟩) hHeld1 ?_
          · obtain ⟨g0, g1, g2, g3, _⟩ := hS9
            go_simp
          simp only [Act.put, List.setIfInBounds_toArray, List.set_cons_zero, List.set_cons_succ]
          refine wpAnyH_take (i := 11) (oi := { dst := some 149, op := Go.Op.move (Go.Operand.tmp 1), type := 3, pos := "header.go:173", after := #[{ on := 10, ground := Go.Ground.guard }], guard := some (10, true) }) (v := undef) rfl (by kernel_rfl) (by kernel_rfl) (by kernel_rfl) (fun _ _ _ h => h) (Or.inr ⟨by rfl, rfl⟩) hHeld1 ?_
          simp only [Act.put, List.setIfInBounds_toArray, List.set_cons_zero, List.set_cons_succ]
          refine wpAnyH_take (i := 12) (oi := { dst := some 150, op := Go.Op.binOp Go.BinOp.neq 3 (Go.Operand.tmp 149) (Go.Operand.const (Go.Value.int Go.IntKind.i64 1)) 3, type := 4, pos := "header.go:173", after := #[{ on := 11, ground := Go.Ground.data }, { on := 10, ground := Go.Ground.guard }], guard := some (10, true) }) (v := undef) rfl (by kernel_rfl) (by kernel_rfl) (by kernel_rfl) (fun _ _ _ h => h) (Or.inr ⟨by rfl, rfl⟩) hHeld1 ?_
          simp only [Act.put, List.setIfInBounds_toArray, List.set_cons_zero, List.set_cons_succ]
          refine wpAnyH_take (i := 13) (oi := { dst := some 151, op := Go.Op.move (Go.Operand.tmp 150), type := 4, pos := "header.go:173", after := #[{ on := 12, ground := Go.Ground.data }, { on := 10, ground := Go.Ground.chain }, { on := 10, ground := Go.Ground.guard }], guard := some (10, true) }) (v := undef) rfl (by kernel_rfl) (by kernel_rfl) (by kernel_rfl) (fun _ _ _ h => h) (Or.inr ⟨by rfl, rfl⟩) hHeld1 ?_
          simp only [Act.put, List.setIfInBounds_toArray, List.set_cons_zero, List.set_cons_succ]
          refine wpAnyH_take (i := 14) (oi := { dst := some 152, op := Go.Op.fieldAddr 32 (Go.Operand.tmp 2) 3, type := 0, pos := "header.go:173", after := #[{ on := 13, ground := Go.Ground.guard }], guard := some (13, false) }) (v := undef) rfl (by kernel_rfl) (by kernel_rfl) (by kernel_rfl) (fun _ _ _ h => h) (Or.inr ⟨by rfl, rfl⟩) hHeld1 ?_
          simp only [Act.put, List.setIfInBounds_toArray, List.set_cons_zero, List.set_cons_succ]
          refine wpAnyH_take (i := 15) (oi := { dst := some 153, op := Go.Op.load 2 (Go.Operand.tmp 152), type := 2, pos := "header.go:173", after := #[{ on := 14, ground := Go.Ground.data }, { on := 13, ground := Go.Ground.guard }], guard := some (13, false) }) (v := undef) rfl (by kernel_rfl) (by kernel_rfl) (by kernel_rfl) (fun _ _ _ h => h) (Or.inr ⟨by rfl, rfl⟩) hHeld1 ?_
          simp only [Act.put, List.setIfInBounds_toArray, List.set_cons_zero, List.set_cons_succ]
          refine wpAnyH_take (i := 16) (oi := { dst := some 154, op := Go.Op.binOp Go.BinOp.lss 2 (Go.Operand.tmp 153) (Go.Operand.const (Go.Value.int Go.IntKind.i64 8589934592)) 2, type := 4, pos := "header.go:173", after := #[{ on := 15, ground := Go.Ground.data }, { on := 13, ground := Go.Ground.guard }], guard := some (13, false) }) (v := undef) rfl (by kernel_rfl) (by kernel_rfl) (by kernel_rfl) (fun _ _ _ h => h) (Or.inr ⟨by rfl, rfl⟩) hHeld1 ?_
          simp only [Act.put, List.setIfInBounds_toArray, List.set_cons_zero, List.set_cons_succ]
          refine wpAnyH_take (i := 17) (oi := { dst := some 155, op := Go.Op.pick (Go.Operand.tmp 151) (Go.Operand.const (Go.Value.bool true)) (Go.Operand.tmp 154), type := 4, pos := "header.go:173", after := #[{ on := 13, ground := Go.Ground.data }, { on := 16, ground := Go.Ground.data }, { on := 10, ground := Go.Ground.guard }], guard := some (10, true) }) (v := undef) rfl (by kernel_rfl) (by kernel_rfl) (by kernel_rfl) (fun _ _ _ h => h) (Or.inr ⟨by rfl, rfl⟩) hHeld1 ?_
          simp only [Act.put, List.setIfInBounds_toArray, List.set_cons_zero, List.set_cons_succ]
          refine wpAnyH_take (i := 18) (oi := { dst := some 156, op := Go.Op.pick (Go.Operand.tmp 148) (Go.Operand.tmp 155) (Go.Operand.const (Go.Value.bool false)), type := 4, pos := "header.go:173", after := #[{ on := 10, ground := Go.Ground.data }, { on := 17, ground := Go.Ground.data }], guard := none }) (v := .bool false) rfl (by kernel_rfl) (by kernel_rfl) (by kernel_rfl) (fun _ _ _ h => h) (Or.inl ⟨by rfl, fun w9 hS9 => ?_⟩) hHeld1 ?_
          · obtain ⟨g0, g1, g2, g3, _⟩ := hS9
            go_simp
          simp only [Act.put, List.setIfInBounds_toArray, List.set_cons_zero, List.set_cons_succ]
          refine wpAnyH_ready (rs := [19]) (by kernel_rfl) (by simp) ?_
          refine AllReadyH.cons (o := { dst := some 157, op := Go.Op.call { callee := Go.Callee.value (Go.Operand.func 21), args := #[Go.Operand.tmp 156], argTypes := #[4] }, type := 3, pos := "header.go:173", after := #[{ on := 18, ground := Go.Ground.data }, { on := 13, ground := Go.Ground.chain }], guard := none }) rfl (fun K9 hK9 => ?_) AllReadyH.nil
          go_simp
          refine (specWhen _ _).mono ?_
          rintro e w' ⟨rfl, rfl⟩
          refine hK9.out _ _ (hHeld1) (fun hHeld2 => ?_)
          clear hK9 K9
          try simp only [Act.put, List.setIfInBounds_toArray, List.set_cons_zero, List.set_cons_succ]
          refine wpAnyH_ready (rs := [23]) (by kernel_rfl) (by simp) ?_
          refine AllReadyH.cons (o := { dst := some 161, op := Go.Op.call { callee := Go.Callee.value (Go.Operand.func 27), args := #[Go.Operand.tmp 159, Go.Operand.tmp 160], argTypes := #[29, 3] }, type := 3, pos := "header.go:173", after := #[{ on := 21, ground := Go.Ground.data }, { on := 22, ground := Go.Ground.data }, { on := 19, ground := Go.Ground.chain }], guard := none }) rfl (fun K9 hK9 => ?_) AllReadyH.nil
          go_simp
          refine (specMoment h.ms h.mn 1 _).mono ?_
          rintro e w' ⟨rfl, hbo⟩
          refine hK9.out _ _ (KB.out _ _ hHeld2 hbo) (fun hHeld3 => ?_)
          clear hK9 K9
          try simp only [Act.put, List.setIfInBounds_toArray, List.set_cons_zero, List.set_cons_succ]
          refine wpAnyH_ready (rs := [24]) (by kernel_rfl) (by simp) ?_
          refine AllReadyH.cons (o := { dst := some 162, op := Go.Op.buildSlice 27 3 #[(0, Go.Operand.tmp 138), (1, Go.Operand.tmp 157), (2, Go.Operand.tmp 161)], type := 27, pos := "header.go:173", after := #[{ on := 0, ground := Go.Ground.data }, { on := 19, ground := Go.Ground.data }, { on := 23, ground := Go.Ground.data }], guard := none }) rfl (fun K9 hK9 => ?_) AllReadyH.nil
          go_simp
          refine hK9.out _ _ (KA.out _ _ hHeld3) (fun hHeld4 => ?_)
          clear hK9 K9
          try simp only [Act.put, List.setIfInBounds_toArray, List.set_cons_zero, List.set_cons_succ]
          refine wpAnyH_ready (rs := [25]) (by kernel_rfl) (by simp) ?_
          refine AllReadyH.cons (o := { dst := some 163, op := Go.Op.call { callee := Go.Callee.value (Go.Operand.func 23), args := #[Go.Operand.tmp 162], argTypes := #[27] }, type := 3, pos := "header.go:173", after := #[{ on := 24, ground := Go.Ground.data }, { on := 23, ground := Go.Ground.chain }], guard := none }) rfl (fun K9 hK9 => ?_) AllReadyH.nil
          go_simp
          refine (all3 _ _ _ _ _).mono ?_
          rintro e w' ⟨rfl, rfl⟩
          refine hK9.out _ _ (hHeld4) (fun hHeld5 => ?_)
          clear hK9 K9
          try simp only [Act.put, List.setIfInBounds_toArray, List.set_cons_zero, List.set_cons_succ]
          refine wpAnyH_take (i := 26) (oi := { dst := some 5, op := Go.Op.assign (Go.Operand.tmp 163), type := 3, pos := "header.go:173", after := #[{ on := 25, ground := Go.Ground.data }, { on := 25, ground := Go.Ground.chain }, { on := 0, ground := Go.Ground.phase }, { on := 1, ground := Go.Ground.phase }, { on := 2, ground := Go.Ground.phase }, { on := 3, ground := Go.Ground.phase }, { on := 4, ground := Go.Ground.phase }, { on := 5, ground := Go.Ground.phase }, { on := 6, ground := Go.Ground.phase }, { on := 7, ground := Go.Ground.phase }, { on := 8, ground := Go.Ground.phase }, { on := 9, ground := Go.Ground.phase }, { on := 10, ground := Go.Ground.phase }, { on := 11, ground := Go.Ground.phase }, { on := 12, ground := Go.Ground.phase }, { on := 13, ground := Go.Ground.phase }, { on := 14, ground := Go.Ground.phase }, { on := 15, ground := Go.Ground.phase }, { on := 16, ground := Go.Ground.phase }, { on := 17, ground := Go.Ground.phase }, { on := 18, ground := Go.Ground.phase }, { on := 19, ground := Go.Ground.phase }, { on := 20, ground := Go.Ground.phase }, { on := 21, ground := Go.Ground.phase }, { on := 22, ground := Go.Ground.phase }, { on := 23, ground := Go.Ground.phase }, { on := 24, ground := Go.Ground.phase }, { on := 25, ground := Go.Ground.phase }], guard := none }) (v := .int .i64 (allV [y4, whenV false, momentV h.ms h.mn 1])) rfl (by kernel_rfl) (by kernel_rfl) (by kernel_rfl) (fun _ _ _ h => h) (Or.inl ⟨by rfl, fun w9 hS9 => ?_⟩) hHeld5 ?_
          · obtain ⟨g0, g1, g2, g3, _⟩ := hS9
            go_simp
          simp only [Act.put, List.setIfInBounds_toArray, List.set_cons_zero, List.set_cons_succ]
          refine wpAnyH_done (by kernel_rfl) ?_ _
          go_wp2_with fail
          go_meet
          case rel => exact ⟨_, rfl, Lib.hid (by have s1 : ¬ (0 : Int) ≤ SZ := (by omega); simp [s1]), Lib.hid (KX.out _ hHeld5)⟩
        | false =>
          refine wp_region_held_drew (S := fun w' => w'.cell? ⟨H, 3, none⟩ = some (.int .i64 SZ) ∧ w'.cell? ⟨H, 0, none⟩ = some (.int .u8 t) ∧ w'.cell? ⟨H, 9, none⟩ = some (.int .i64 h.ms) ∧ w'.cell? ⟨H, 10, none⟩ = some (.int .i64 h.mn) ∧ Below w6.heap.size w6 w') (by kernel_rfl) (KS.out _ ((Below.refl _ w6).drew)) (fun hHeld => ?_)
          refine wpAnyH_take (i := 0) (oi := { dst := some 138, op := Go.Op.move (Go.Operand.tmp 5), type := 3, pos := "header.go:173", after := #[], guard := none }) (v := .int .i64 y4) rfl (by kernel_rfl) (by kernel_rfl) (by kernel_rfl) (fun _ _ _ h => h) (Or.inl ⟨by rfl, fun w9 hS9 => ?_⟩) hHeld ?_
          · obtain ⟨g0, g1, g2, g3, _⟩ := hS9
            go_simp
          simp only [Act.put, List.setIfInBounds_toArray, List.set_cons_zero, List.set_cons_succ]
          refine wpAnyH_take (i := 1) (oi := { dst := some 139, op := Go.Op.fieldAddr 32 (Go.Operand.tmp 2) 3, type := 0, pos := "header.go:173", after := #[], guard := none }) (v := .pointer (some ⟨H, 3, none⟩)) rfl (by kernel_rfl) (by kernel_rfl) (by kernel_rfl) (fun _ _ _ h => h) (Or.inl ⟨by rfl, fun w9 hS9 => ?_⟩) hHeld ?_
          · obtain ⟨g0, g1, g2, g3, _⟩ := hS9
            go_simp
          simp only [Act.put, List.setIfInBounds_toArray, List.set_cons_zero, List.set_cons_succ]
          refine wpAnyH_take (i := 2) (oi := { dst := some 140, op := Go.Op.load 2 (Go.Operand.tmp 139), type := 2, pos := "header.go:173", after := #[{ on := 1, ground := Go.Ground.data }], guard := none }) (v := .int .i64 SZ) rfl (by kernel_rfl) (by kernel_rfl) (by kernel_rfl) (fun _ _ _ h => h) (Or.inl ⟨by rfl, fun w9 hS9 => ?_⟩) hHeld ?_
          · obtain ⟨g0, g1, g2, g3, _⟩ := hS9
            go_simp
          simp only [Act.put, List.setIfInBounds_toArray, List.set_cons_zero, List.set_cons_succ]
          refine wpAnyH_take (i := 3) (oi := { dst := some 141, op := Go.Op.binOp Go.BinOp.geq 2 (Go.Operand.tmp 140) (Go.Operand.const (Go.Value.int Go.IntKind.i64 0)) 2, type := 4, pos := "header.go:173", after := #[{ on := 2, ground := Go.Ground.data }], guard := none }) (v := .bool false) rfl (by kernel_rfl) (by kernel_rfl) (by kernel_rfl) (fun _ _ _ h => h) (Or.inl ⟨by rfl, fun w9 hS9 => ?_⟩) hHeld ?_
          · obtain ⟨g0, g1, g2, g3, _⟩ := hS9
            go_simp
          simp only [Act.put, List.setIfInBounds_toArray, List.set_cons_zero, List.set_cons_succ]
          refine wpAnyH_take (i := 4) (oi := { dst := some 142, op := Go.Op.move (Go.Operand.tmp 141), type := 4, pos := "header.go:173", after := #[{ on := 3, ground := Go.Ground.data }], guard := none }) (v := .bool false) rfl (by kernel_rfl) (by kernel_rfl) (by kernel_rfl) (fun _ _ _ h => h) (Or.inl ⟨by rfl, fun w9 hS9 => ?_⟩) hHeld ?_
          · obtain ⟨g0, g1, g2, g3, _⟩ := hS9
            go_simp
          simp only [Act.put, List.setIfInBounds_toArray, List.set_cons_zero, List.set_cons_succ]
          refine wpAnyH_take (i := 5) (oi := { dst := some 143, op := Go.Op.fieldAddr 32 (Go.Operand.tmp 2) 0, type := 0, pos := "header.go:173", after := #[{ on := 4, ground := Go.Ground.guard }], guard := some (4, false) }) (v := .pointer (some ⟨H, 0, none⟩)) rfl (by kernel_rfl) (by kernel_rfl) (by kernel_rfl) (fun _ _ _ h => h) (Or.inl ⟨by rfl, fun w9 hS9 => ?_⟩) hHeld ?_
          · obtain ⟨g0, g1, g2, g3, _⟩ := hS9
            go_simp
          simp only [Act.put, List.setIfInBounds_toArray, List.set_cons_zero, List.set_cons_succ]
          refine wpAnyH_take (i := 6) (oi := { dst := some 144, op := Go.Op.load 5 (Go.Operand.tmp 143), type := 5, pos := "header.go:173", after := #[{ on := 5, ground := Go.Ground.data }, { on := 4, ground := Go.Ground.guard }], guard := some (4, false) }) (v := .int .u8 t) rfl (by kernel_rfl) (by kernel_rfl) (by kernel_rfl) (fun _ _ _ h => h) (Or.inl ⟨by rfl, fun w9 hS9 => ?_⟩) hHeld ?_
          · obtain ⟨g0, g1, g2, g3, _⟩ := hS9
            go_simp
          simp only [Act.put, List.setIfInBounds_toArray, List.set_cons_zero, List.set_cons_succ]
          refine wpAnyH_take (i := 20) (oi := { dst := some 158, op := Go.Op.fieldAddr 32 (Go.Operand.tmp 2) 9, type := 0, pos := "header.go:173", after := #[], guard := none }) (v := .pointer (some ⟨H, 9, none⟩)) rfl (by kernel_rfl) (by kernel_rfl) (by kernel_rfl) (fun _ _ _ h => h) (Or.inl ⟨by rfl, fun w9 hS9 => ?_⟩) hHeld ?_
          · obtain ⟨g0, g1, g2, g3, _⟩ := hS9
            go_simp
          simp only [Act.put, List.setIfInBounds_toArray, List.set_cons_zero, List.set_cons_succ]
          refine wpAnyH_take (i := 21) (oi := { dst := some 159, op := Go.Op.load 29 (Go.Operand.tmp 158), type := 29, pos := "header.go:173", after := #[{ on := 20, ground := Go.Ground.data }], guard := none }) (v := .agg #[.int .i64 h.ms, .int .i64 h.mn]) rfl (by kernel_rfl) (by kernel_rfl) (by kernel_rfl) (fun _ _ _ h => h) (Or.inl ⟨by rfl, fun w9 hS9 => ?_⟩) hHeld ?_
          · obtain ⟨g0, g1, g2, g3, _⟩ := hS9
            go_simp
          simp only [Act.put, List.setIfInBounds_toArray, List.set_cons_zero, List.set_cons_succ]
          refine wpAnyH_take (i := 22) (oi := { dst := some 160, op := Go.Op.move (Go.Operand.tmp 1), type := 3, pos := "header.go:173", after := #[], guard := none }) (v := .int .i64 1) rfl (by kernel_rfl) (by kernel_rfl) (by kernel_rfl) (fun _ _ _ h => h) (Or.inl ⟨by rfl, fun w9 hS9 => ?_⟩) hHeld ?_
          · obtain ⟨g0, g1, g2, g3, _⟩ := hS9
            go_simp
          simp only [Act.put, List.setIfInBounds_toArray, List.set_cons_zero, List.set_cons_succ]
          refine wpAnyH_ready (rs := [7]) (by kernel_rfl) (by simp) ?_
          refine AllReadyH.cons (o := { dst := some 145, op := Go.Op.call { callee := Go.Callee.value (Go.Operand.func 26), args := #[Go.Operand.tmp 144], argTypes := #[5] }, type := 4, pos := "header.go:173", after := #[{ on := 6, ground := Go.Ground.data }, { on := 4, ground := Go.Ground.chain }, { on := 4, ground := Go.Ground.guard }], guard := some (4, false) }) rfl (fun K9 hK9 => ?_) AllReadyH.nil
          go_simp
          refine (HHD _).out.mono ?_
          rintro e w' ⟨rfl, rfl⟩
          refine hK9.out _ _ (hHeld) (fun hHeld1 => ?_)
          clear hK9 K9
          try simp only [Act.put, List.setIfInBounds_toArray, List.set_cons_zero, List.set_cons_succ]
          refine wpAnyH_take (i := 8) (oi := { dst := some 146, op := Go.Op.unOp Go.UnOp.not 4 (Go.Operand.tmp 145), type := 4, pos := "header.go:173", after := #[{ on := 7, ground := Go.Ground.data }, { on := 4, ground := Go.Ground.guard }], guard := some (4, false) }) (v := .bool true) rfl (by kernel_rfl) (by kernel_rfl) (by kernel_rfl) (fun _ _ _ h => h) (Or.inl ⟨by rfl, fun w9 hS9 => ?_⟩) hHeld1 ?_
          · obtain ⟨g0, g1, g2, g3, _⟩ := hS9
            go_simp
          simp only [Act.put, List.setIfInBounds_toArray, List.set_cons_zero, List.set_cons_succ]
          refine wpAnyH_take (i := 9) (oi := { dst := some 147, op := Go.Op.pick (Go.Operand.tmp 142) (Go.Operand.const (Go.Value.bool true)) (Go.Operand.tmp 146), type := 4, pos := "header.go:173", after := #[{ on := 4, ground := Go.Ground.data }, { on := 8, ground := Go.Ground.data }], guard := none }) (v := .bool true) rfl (by kernel_rfl) (by kernel_rfl) (by kernel_rfl) (fun _ _ _ h => h) (Or.inl ⟨by rfl, fun w9 hS9 => ?_⟩) hHeld1 ?_
          · obtain ⟨g0, g1, g2, g3, _⟩ := hS9
            go_simp
          simp only [Act.put, List.setIfInBounds_toArray, List.set_cons_zero, List.set_cons_succ]
          refine wpAnyH_take (i := 10) (oi := { dst := some 148, op := Go.Op.move (Go.Operand.tmp 147), type := 4, pos := "header.go:173", after := #[{ on := 9, ground := Go.Ground.data }, { on := 7, ground := Go.Ground.chain }], guard := none }) (v := .bool true) rfl (by kernel_rfl) (by kernel_rfl) (by kernel_rfl) (fun _ _ _ h => h) (Or.inl ⟨by rfl, fun w9 hS9 => ?_⟩) hHeld1 ?_
          · obtain ⟨g0, g1, g2, g3, _⟩ := hS9
            go_simp
          simp only [Act.put, List.setIfInBounds_toArray, List.set_cons_zero, List.set_cons_succ]
          refine wpAnyH_take (i := 11) (oi := { dst := some 149, op := Go.Op.move (Go.Operand.tmp 1), type := 3, pos := "header.go:173", after := #[{ on := 10, ground := Go.Ground.guard }], guard := some (10, true) }) (v := .int .i64 1) rfl (by kernel_rfl) (by kernel_rfl) (by kernel_rfl) (fun _ _ _ h => h) (Or.inl ⟨by rfl, fun w9 hS9 => ?_⟩) hHeld1 ?_
          · obtain ⟨g0, g1, g2, g3, _⟩ := hS9
            go_simp
          simp only [Act.put, List.setIfInBounds_toArray, List.set_cons_zero, List.set_cons_succ]
          refine wpAnyH_take (i := 12) (oi := { dst := some 150, op := Go.Op.binOp Go.BinOp.neq 3 (Go.Operand.tmp 149) (Go.Operand.const (Go.Value.int Go.IntKind.i64 1)) 3, type := 4, pos := "header.go:173", after := #[{ on := 11, ground := Go.Ground.data }, { on := 10, ground := Go.Ground.guard }], guard := some (10, true) }) (v := .bool false) rfl (by kernel_rfl) (by kernel_rfl) (by kernel_rfl) (fun _ _ _ h => h) (Or.inl ⟨by rfl, fun w9 hS9 => ?_⟩) hHeld1 ?_
          · obtain ⟨g0, g1, g2, g3, _⟩ := hS9
            go_simp
          simp only [Act.put, List.setIfInBounds_toArray, List.set_cons_zero, List.set_cons_succ]
          refine wpAnyH_take (i := 13) (oi := { dst := some 151, op := Go.Op.move (Go.Operand.tmp 150), type := 4, pos := "header.go:173", after := #[{ on := 12, ground := Go.Ground.data }, { on := 10, ground := Go.Ground.chain }, { on := 10, ground := Go.Ground.guard }], guard := some (10, true) }) (v := .bool false) rfl (by kernel_rfl) (by kernel_rfl) (by kernel_rfl) (fun _ _ _ h => h) (Or.inl ⟨by rfl, fun w9 hS9 => ?_⟩) hHeld1 ?_
          · obtain ⟨g0, g1, g2, g3, _⟩ := hS9
            go_simp
          simp only [Act.put, List.setIfInBounds_toArray, List.set_cons_zero, List.set_cons_succ]
          refine wpAnyH_take (i := 14) (oi := { dst := some 152, op := Go.Op.fieldAddr 32 (Go.Operand.tmp 2) 3, type := 0, pos := "header.go:173", after := #[{ on := 13, ground := Go.Ground.guard }], guard := some (13, false) }) (v := .pointer (some ⟨H, 3, none⟩)) rfl (by kernel_rfl) (by kernel_rfl) (by kernel_rfl) (fun _ _ _ h => h) (Or.inl ⟨by rfl, fun w9 hS9 => ?_⟩) hHeld1 ?_
          · obtain ⟨g0, g1, g2, g3, _⟩ := hS9
            go_simp
          simp only [Act.put, List.setIfInBounds_toArray, List.set_cons_zero, List.set_cons_succ]
          refine wpAnyH_take (i := 15) (oi := { dst := some 153, op := Go.Op.load 2 (Go.Operand.tmp 152), type := 2, pos := "header.go:173", after := #[{ on := 14, ground := Go.Ground.data }, { on := 13, ground := Go.Ground.guard }], guard := some (13, false) }) (v := .int .i64 SZ) rfl (by kernel_rfl) (by kernel_rfl) (by kernel_rfl) (fun _ _ _ h => h) (Or.inl ⟨by rfl, fun w9 hS9 => ?_⟩) hHeld1 ?_
          · obtain ⟨g0, g1, g2, g3, _⟩ := hS9
            go_simp
          simp only [Act.put, List.setIfInBounds_toArray, List.set_cons_zero, List.set_cons_succ]
          refine wpAnyH_take (i := 16) (oi := { dst := some 154, op := Go.Op.binOp Go.BinOp.lss 2 (Go.Operand.tmp 153) (Go.Operand.const (Go.Value.int Go.IntKind.i64 8589934592)) 2, type := 4, pos := "header.go:173", after := #[{ on := 15, ground := Go.Ground.data }, { on := 13, ground := Go.Ground.guard }], guard := some (13, false) }) (v := .bool (decide (SZ < 8589934592))) rfl (by kernel_rfl) (by kernel_rfl) (by kernel_rfl) (fun _ _ _ h => h) (Or.inl ⟨by rfl, fun w9 hS9 => ?_⟩) hHeld1 ?_
          · obtain ⟨g0, g1, g2, g3, _⟩ := hS9
            go_simp
          simp only [Act.put, List.setIfInBounds_toArray, List.set_cons_zero, List.set_cons_succ]
          refine wpAnyH_take (i := 17) (oi := { dst := some 155, op := Go.Op.pick (Go.Operand.tmp 151) (Go.Operand.const (Go.Value.bool true)) (Go.Operand.tmp 154), type := 4, pos := "header.go:173", after := #[{ on := 13, ground := Go.Ground.data }, { on := 16, ground := Go.Ground.data }, { on := 10, ground := Go.Ground.guard }], guard := some (10, true) }) (v := .bool (decide (SZ < 8589934592))) rfl (by kernel_rfl) (by kernel_rfl) (by kernel_rfl) (fun _ _ _ h => h) (Or.inl ⟨by rfl, fun w9 hS9 => ?_⟩) hHeld1 ?_
          · obtain ⟨g0, g1, g2, g3, _⟩ := hS9
            go_simp
          simp only [Act.put, List.setIfInBounds_toArray, List.set_cons_zero, List.set_cons_succ]
          refine wpAnyH_take (i := 18) (oi := { dst := some 156, op := Go.Op.pick (Go.Operand.tmp 148) (Go.Operand.tmp 155) (Go.Operand.const (Go.Value.bool false)), type := 4, pos := "header.go:173", after := #[{ on := 10, ground := Go.Ground.data }, { on := 17, ground := Go.Ground.data }], guard := none }) (v := .bool (decide (SZ < 8589934592))) rfl (by kernel_rfl) (by kernel_rfl) (by kernel_rfl) (fun _ _ _ h => h) (Or.inl ⟨by rfl, fun w9 hS9 => ?_⟩) hHeld1 ?_
          · obtain ⟨g0, g1, g2, g3, _⟩ := hS9
            go_simp
          simp only [Act.put, List.setIfInBounds_toArray, List.set_cons_zero, List.set_cons_succ]
          refine wpAnyH_ready (rs := [19]) (by kernel_rfl) (by simp) ?_
          refine AllReadyH.cons (o := { dst := some 157, op := Go.Op.call { callee := Go.Callee.value (Go.Operand.func 21), args := #[Go.Operand.tmp 156], argTypes := #[4] }, type := 3, pos := "header.go:173", after := #[{ on := 18, ground := Go.Ground.data }, { on := 13, ground := Go.Ground.chain }], guard := none }) rfl (fun K9 hK9 => ?_) AllReadyH.nil
          go_simp
          refine (specWhen _ _).mono ?_
          rintro e w' ⟨rfl, rfl⟩
          refine hK9.out _ _ (hHeld1) (fun hHeld2 => ?_)
          clear hK9 K9
          try simp only [Act.put, List.setIfInBounds_toArray, List.set_cons_zero, List.set_cons_succ]
          refine wpAnyH_ready (rs := [23]) (by kernel_rfl) (by simp) ?_
          refine AllReadyH.cons (o := { dst := some 161, op := Go.Op.call { callee := Go.Callee.value (Go.Operand.func 27), args := #[Go.Operand.tmp 159, Go.Operand.tmp 160], argTypes := #[29, 3] }, type := 3, pos := "header.go:173", after := #[{ on := 21, ground := Go.Ground.data }, { on := 22, ground := Go.Ground.data }, { on := 19, ground := Go.Ground.chain }], guard := none }) rfl (fun K9 hK9 => ?_) AllReadyH.nil
          go_simp
          refine (specMoment h.ms h.mn 1 _).mono ?_
          rintro e w' ⟨rfl, hbo⟩
          refine hK9.out _ _ (KB.out _ _ hHeld2 hbo) (fun hHeld3 => ?_)
          clear hK9 K9
          try simp only [Act.put, List.setIfInBounds_toArray, List.set_cons_zero, List.set_cons_succ]
          refine wpAnyH_ready (rs := [24]) (by kernel_rfl) (by simp) ?_
          refine AllReadyH.cons (o := { dst := some 162, op := Go.Op.buildSlice 27 3 #[(0, Go.Operand.tmp 138), (1, Go.Operand.tmp 157), (2, Go.Operand.tmp 161)], type := 27, pos := "header.go:173", after := #[{ on := 0, ground := Go.Ground.data }, { on := 19, ground := Go.Ground.data }, { on := 23, ground := Go.Ground.data }], guard := none }) rfl (fun K9 hK9 => ?_) AllReadyH.nil
          go_simp
          refine hK9.out _ _ (KA.out _ _ hHeld3) (fun hHeld4 => ?_)
          clear hK9 K9
          try simp only [Act.put, List.setIfInBounds_toArray, List.set_cons_zero, List.set_cons_succ]
          refine wpAnyH_ready (rs := [25]) (by kernel_rfl) (by simp) ?_
          refine AllReadyH.cons (o := { dst := some 163, op := Go.Op.call { callee := Go.Callee.value (Go.Operand.func 23), args := #[Go.Operand.tmp 162], argTypes := #[27] }, type := 3, pos := "header.go:173", after := #[{ on := 24, ground := Go.Ground.data }, { on := 23, ground := Go.Ground.chain }], guard := none }) rfl (fun K9 hK9 => ?_) AllReadyH.nil
          go_simp
          refine (all3 _ _ _ _ _).mono ?_
          rintro e w' ⟨rfl, rfl⟩
          refine hK9.out _ _ (hHeld4) (fun hHeld5 => ?_)
          clear hK9 K9
          try simp only [Act.put, List.setIfInBounds_toArray, List.set_cons_zero, List.set_cons_succ]
          refine wpAnyH_take (i := 26) (oi := { dst := some 5, op := Go.Op.assign (Go.Operand.tmp 163), type := 3, pos := "header.go:173", after := #[{ on := 25, ground := Go.Ground.data }, { on := 25, ground := Go.Ground.chain }, { on := 0, ground := Go.Ground.phase }, { on := 1, ground := Go.Ground.phase }, { on := 2, ground := Go.Ground.phase }, { on := 3, ground := Go.Ground.phase }, { on := 4, ground := Go.Ground.phase }, { on := 5, ground := Go.Ground.phase }, { on := 6, ground := Go.Ground.phase }, { on := 7, ground := Go.Ground.phase }, { on := 8, ground := Go.Ground.phase }, { on := 9, ground := Go.Ground.phase }, { on := 10, ground := Go.Ground.phase }, { on := 11, ground := Go.Ground.phase }, { on := 12, ground := Go.Ground.phase }, { on := 13, ground := Go.Ground.phase }, { on := 14, ground := Go.Ground.phase }, { on := 15, ground := Go.Ground.phase }, { on := 16, ground := Go.Ground.phase }, { on := 17, ground := Go.Ground.phase }, { on := 18, ground := Go.Ground.phase }, { on := 19, ground := Go.Ground.phase }, { on := 20, ground := Go.Ground.phase }, { on := 21, ground := Go.Ground.phase }, { on := 22, ground := Go.Ground.phase }, { on := 23, ground := Go.Ground.phase }, { on := 24, ground := Go.Ground.phase }, { on := 25, ground := Go.Ground.phase }], guard := none }) (v := .int .i64 (allV [y4, whenV (decide (SZ < 8589934592)), momentV h.ms h.mn 1])) rfl (by kernel_rfl) (by kernel_rfl) (by kernel_rfl) (fun _ _ _ h => h) (Or.inl ⟨by rfl, fun w9 hS9 => ?_⟩) hHeld5 ?_
          · obtain ⟨g0, g1, g2, g3, _⟩ := hS9
            go_simp
          simp only [Act.put, List.setIfInBounds_toArray, List.set_cons_zero, List.set_cons_succ]
          refine wpAnyH_done (by kernel_rfl) ?_ _
          go_wp2_with fail
          go_meet
          case rel => exact ⟨_, rfl, Lib.hid (by have s1 : ¬ (0 : Int) ≤ SZ := (by omega); simp [s1]), Lib.hid (KX.out _ hHeld5)⟩
    case rest => as_aux_lemma =>
    first | (rename_i oa ob oc od oe og oh oi oj ok ol om oo op oq os ot ou ov ow ox oy oz oA oB oC oD oE oF oG oH oI oJ oK oL oM oN oO oP oQ oR oS oT oU oV oW oX oY oZ o0 o1 o2 o3 o4 o5 o6 o7 o8 o9 pa pb pc pd pe pf pg ph pi pj pk pl pm pn po pp pq pr ps pt pu pv pw px py pz pA pB pC pD pE pF pG pH pI pJ pK pL pM pN pO pP pQ pR pS pT pU pV pW pX pY pZ p0 p1 p2 p3 p4 p5 p6 p7 p8 p9 qa qb qc qd qe qf qg qh qi qj qk ql qm qn qo qp qq qr qs qt qu qv qw qx qy qz qA qB qC qD qE qF qG qH qI qJ qK qL qM qN qO qP qQ qR qS qT qU qV qW qX qY qZ q0 q1 q2 q3 q4 q5 q6 q7 q8 q9 za zb zc zd ze zf zg zh zi zj zk zl zm zn zo zp zq zr zs zt zu zv zw zx zy zz zA zB zC zD zE zF zG zH zI zJ zK zL zM zN zO zP zQ _ _; clear oa ob oc od oe og oh oi oj ok ol om oo op oq os ot ou ov ow ox oy oz oA oB oC oD oE oF oG oH oI oJ oK oL oM oN oO oP oQ oR oS oT oU oV oW oX oY oZ o0 o1 o2 o3 o4 o5 o6 o7 o8 o9 pa pb pc pd pe pf pg ph pi pj pk pl pm pn po pp pq pr ps pt pu pv pw px py pz pA pB pC pD pE pF pG pH pI pJ pK pL pM pN pO pP pQ pR pS pT pU pV pW pX pY pZ p0 p1 p2 p3 p4 p5 p6 p7 p8 p9 qa qb qc qd qe qf qg qh qi qj qk ql qm qn qo qp qq qr qs qt qu qv qw qx qy qz qA qB qC qD qE qF qG qH qI qJ qK qL qM qN qO qP qQ qR qS qT qU qV qW qX qY qZ q0 q1 q2 q3 q4 q5 q6 q7 q8 q9 za zb zc zd ze zf zg zh zi zj zk zl zm zn zo zp zq zr zs zt zu zv zw zx zy zz zA zB zC zD zE zF zG zH zI zJ zK zL zM zN zO zP zQ)
    obtain ⟨y5, rfl, HY5, HXN⟩ := hcut
    clear KS KA KB KX
    obtain ⟨w7, hwn⟩ : ∃ w5, w5 = wc := ⟨_, rfl⟩
    subst hwn
    have HB7 : Hid (Blk w7 H 32 h.prom.cells) := Lib.hid (HB6.out.below HXN.out HB6.out.lt)
    have HW7 : Hid (Below w.heap.size w w7) := Lib.hid (HW6.out.trans (HXN.out.mono HW6.out.size))
    clear HB6 HW6 HXN
    have c3 : w7.cell? ⟨H, 3, none⟩ = some (.int .i64 SZ) := by rw [← HSZ.out]; exact HB7.out.cell 3
    go_upto_if 166 with fail
    go_cut [5] (fun v wx => ∃ y : Int, v = .int .i64 y ∧ Hid (y = if SZ < 0 then allV [y5, 0] else y5) ∧ Hid (Below w7.heap.size w7 wx))
    case first => as_aux_lemma =>
      by_cases s0 : SZ < 0
      · go_wp2_with fail
        refine (all2 _ _ _ _).mono ?_
        rintro e w' ⟨rfl, hw9⟩
        subst hw9
        go_simp
        go_wp2_with fail
        go_meet
        case rel => exact ⟨_, rfl, Lib.hid (by rw [if_pos (by omega)]), Lib.hid ((Below.refl _ _).alloc (Nat.le_refl _) _)⟩
      · go_wp2_with fail
        go_meet
        case rel => exact ⟨_, rfl, Lib.hid (by rw [if_neg (by omega)]), Lib.hid (Below.refl _ _)⟩
    case rest => as_aux_lemma =>
    first | (rename_i oa ob oc od oe og oh oi oj ok ol om oo op oq os ot ou ov ow ox oy oz oA oB oC oD oE oF oG oH oI oJ oK oL oM oN oO oP oQ oR oS oT oU oV oW oX oY oZ o0 o1 o2 o3 o4 o5 o6 o7 o8 o9 pa pb pc pd pe pf pg ph pi pj pk pl pm pn po pp pq pr ps pt pu pv pw px py pz pA pB pC pD pE pF pG pH pI pJ pK pL pM pN pO pP pQ pR pS pT pU pV pW pX pY pZ p0 p1 p2 p3 p4 p5 p6 p7 p8 p9 qa qb qc qd qe qf qg qh qi qj qk ql qm qn qo qp qq qr qs qt qu qv qw qx qy qz qA qB qC qD qE qF qG qH qI qJ qK qL qM qN qO qP qQ qR qS qT qU qV qW qX qY qZ q0 q1 q2 q3 q4 q5 q6 q7 q8 q9 za zb zc zd ze zf zg zh zi zj zk zl zm zn zo zp zq zr zs zt zu zv zw zx zy zz zA zB zC zD zE zF zG zH zI zJ zK zL zM zN zO zP zQ _ _; clear oa ob oc od oe og oh oi oj ok ol om oo op oq os ot ou ov ow ox oy oz oA oB oC oD oE oF oG oH oI oJ oK oL oM oN oO oP oQ oR oS oT oU oV oW oX oY oZ o0 o1 o2 o3 o4 o5 o6 o7 o8 o9 pa pb pc pd pe pf pg ph pi pj pk pl pm pn po pp pq pr ps pt pu pv pw px py pz pA pB pC pD pE pF pG pH pI pJ pK pL pM pN pO pP pQ pR pS pT pU pV pW pX pY pZ p0 p1 p2 p3 p4 p5 p6 p7 p8 p9 qa qb qc qd qe qf qg qh qi qj qk ql qm qn qo qp qq qr qs qt qu qv qw qx qy qz qA qB qC qD qE qF qG qH qI qJ qK qL qM qN qO qP qQ qR qS qT qU qV qW qX qY qZ q0 q1 q2 q3 q4 q5 q6 q7 q8 q9 za zb zc zd ze zf zg zh zi zj zk zl zm zn zo zp zq zr zs zt zu zv zw zx zy zz zA zB zC zD zE zF zG zH zI zJ zK zL zM zN zO zP zQ)
    obtain ⟨y6, rfl, HY6, HXN⟩ := hcut
    clear c3
    obtain ⟨w8, hwn⟩ : ∃ w5, w5 = wc := ⟨_, rfl⟩
    subst hwn
    have HB8 : Hid (Blk w8 H 32 h.prom.cells) := Lib.hid (HB7.out.below HXN.out HB7.out.lt)
    have HW8 : Hid (Below w.heap.size w w8) := Lib.hid (HW7.out.trans (HXN.out.mono HW7.out.size))
    clear HB7 HW7 HXN
    obtain ⟨M, hM⟩ : ∃ x, h.ms = x := ⟨_, rfl⟩
    obtain ⟨xa, hxa⟩ : ∃ x, h.ha = x := ⟨_, rfl⟩
    obtain ⟨xc, hxc⟩ : ∃ x, h.hc = x := ⟨_, rfl⟩
    have HM := Lib.hid hM
    have HXA := Lib.hid hxa
    have HXC := Lib.hid hxc
    have KS : Hid (∀ w', Below w8.heap.size w8 w' → w'.cell? ⟨H, 9, none⟩ = some (.int .i64 M) ∧ w'.cell? ⟨H, 11, none⟩ = some (.bool xa) ∧ w'.cell? ⟨H, 12, none⟩ = some (.bool xc) ∧ Below w8.heap.size w8 w') := Lib.hid (fun w' hb => by
      have hB := HB8.out.below hb HB8.out.lt
      exact ⟨by rw [← hM]; exact hB.cell 9, by rw [← hxa]; exact hB.cell 11, by rw [← hxc]; exact hB.cell 12, hb⟩)
    have KA : Hid (∀ w' o, (w'.cell? ⟨H, 9, none⟩ = some (.int .i64 M) ∧ w'.cell? ⟨H, 11, none⟩ = some (.bool xa) ∧ w'.cell? ⟨H, 12, none⟩ = some (.bool xc) ∧ Below w8.heap.size w8 w') → _) := Lib.hid (fun w' o h => KS.out (w'.alloc o) (h.2.2.2.alloc h.2.2.2.size o))
    have KX : Hid (∀ w', (w'.cell? ⟨H, 9, none⟩ = some (.int .i64 M) ∧ w'.cell? ⟨H, 11, none⟩ = some (.bool xa) ∧ w'.cell? ⟨H, 12, none⟩ = some (.bool xc) ∧ Below w8.heap.size w8 w') → Below w8.heap.size w8 w') := Lib.hid (fun w' h => h.2.2.2)
    clear hM hxa hxc
    go_upto_region 18 with fail
    go_cut [5] (fun v wx => ∃ y : Int, v = .int .i64 y ∧ Hid (y = allV [y6, whenV (decide (0 ≤ M) && decide (M < 8589934592)), whenV (!xa && !xc)]) ∧ Hid (Below w8.heap.size w8 wx))
    case first => as_aux_lemma =>
      by_cases s0 : 0 ≤ M
      · skip
        cases xa with
        | true =>
          refine wp_region_held_drew (S := fun w' => w'.cell? ⟨H, 9, none⟩ = some (.int .i64 M) ∧ w'.cell? ⟨H, 11, none⟩ = some (.bool true) ∧ w'.cell? ⟨H, 12, none⟩ = some (.bool xc) ∧ Below w8.heap.size w8 w') (by kernel_rfl) (KS.out _ ((Below.refl _ w8).drew)) (fun hHeld => ?_)
          refine wpAnyH_take (i := 0) (oi := { dst := some 172, op := Go.Op.move (Go.Operand.tmp 5), type := 3, pos := "header.go:178", after := #[], guard := none }) (v := .int .i64 y6) rfl (by kernel_rfl) (by kernel_rfl) (by kernel_rfl) (fun _ _ _ h => h) (Or.inl ⟨by rfl, fun w9 hS9 => ?_⟩) hHeld ?_
          · obtain ⟨g0, g1, g2, _⟩ := hS9
            go_simp
          simp only [Act.put, List.setIfInBounds_toArray, List.set_cons_zero, List.set_cons_succ]
          refine wpAnyH_take (i := 1) (oi := { dst := some 173, op := Go.Op.fieldAddr 32 (Go.Operand.tmp 2) 9, type := 0, pos := "header.go:178", after := #[], guard := none }) (v := .pointer (some ⟨H, 9, none⟩)) rfl (by kernel_rfl) (by kernel_rfl) (by kernel_rfl) (fun _ _ _ h => h) (Or.inl ⟨by rfl, fun w9 hS9 => ?_⟩) hHeld ?_
          · obtain ⟨g0, g1, g2, _⟩ := hS9
            go_simp
          simp only [Act.put, List.setIfInBounds_toArray, List.set_cons_zero, List.set_cons_succ]
          refine wpAnyH_take (i := 2) (oi := { dst := some 174, op := Go.Op.fieldAddr 29 (Go.Operand.tmp 173) 0, type := 0, pos := "header.go:178", after := #[{ on := 1, ground := Go.Ground.data }], guard := none }) (v := .pointer (some ⟨H, 9, none⟩)) rfl (by kernel_rfl) (by kernel_rfl) (by kernel_rfl) (fun _ _ _ h => h) (Or.inl ⟨by rfl, fun w9 hS9 => ?_⟩) hHeld ?_
          · obtain ⟨g0, g1, g2, _⟩ := hS9
            go_simp
          simp only [Act.put, List.setIfInBounds_toArray, List.set_cons_zero, List.set_cons_succ]
          refine wpAnyH_take (i := 3) (oi := { dst := some 175, op := Go.Op.load 2 (Go.Operand.tmp 174), type := 2, pos := "header.go:178", after := #[{ on := 2, ground := Go.Ground.data }], guard := none }) (v := .int .i64 M) rfl (by kernel_rfl) (by kernel_rfl) (by kernel_rfl) (fun _ _ _ h => h) (Or.inl ⟨by rfl, fun w9 hS9 => ?_⟩) hHeld ?_
          · obtain ⟨g0, g1, g2, _⟩ := hS9
            go_simp
          simp only [Act.put, List.setIfInBounds_toArray, List.set_cons_zero, List.set_cons_succ]
          refine wpAnyH_take (i := 4) (oi := { dst := some 176, op := Go.Op.binOp Go.BinOp.geq 2 (Go.Operand.tmp 175) (Go.Operand.const (Go.Value.int Go.IntKind.i64 0)) 2, type := 4, pos := "header.go:178", after := #[{ on := 3, ground := Go.Ground.data }], guard := none }) (v := .bool true) rfl (by kernel_rfl) (by kernel_rfl) (by kernel_rfl) (fun _ _ _ h => h) (Or.inl ⟨by rfl, fun w9 hS9 => ?_⟩) hHeld ?_
          · obtain ⟨g0, g1, g2, _⟩ := hS9
            go_simp
          simp only [Act.put, List.setIfInBounds_toArray, List.set_cons_zero, List.set_cons_succ]
          refine wpAnyH_take (i := 5) (oi := { dst := some 177, op := Go.Op.move (Go.Operand.tmp 176), type := 4, pos := "header.go:178", after := #[{ on := 4, ground := Go.Ground.data }], guard := none }) (v := .bool true) rfl (by kernel_rfl) (by kernel_rfl) (by kernel_rfl) (fun _ _ _ h => h) (Or.inl ⟨by rfl, fun w9 hS9 => ?_⟩) hHeld ?_
          · obtain ⟨g0, g1, g2, _⟩ := hS9
            go_simp
          simp only [Act.put, List.setIfInBounds_toArray, List.set_cons_zero, List.set_cons_succ]
          refine wpAnyH_take (i := 6) (oi := { dst := some 178, op := Go.Op.fieldAddr 32 (Go.Operand.tmp 2) 9, type := 0, pos := "header.go:178", after := #[{ on := 5, ground := Go.Ground.guard }], guard := some (5, true) }) (v := .pointer (some ⟨H, 9, none⟩)) rfl (by kernel_rfl) (by kernel_rfl) (by kernel_rfl) (fun _ _ _ h => h) (Or.inl ⟨by rfl, fun w9 hS9 => ?_⟩) hHeld ?_
          · obtain ⟨g0, g1, g2, _⟩ := hS9
            go_simp
          simp only [Act.put, List.setIfInBounds_toArray, List.set_cons_zero, List.set_cons_succ]
          refine wpAnyH_take (i := 7) (oi := { dst := some 179, op := Go.Op.fieldAddr 29 (Go.Operand.tmp 178) 0, type := 0, pos := "header.go:178", after := #[{ on := 6, ground := Go.Ground.data }, { on := 5, ground := Go.Ground.guard }], guard := some (5, true) }) (v := .pointer (some ⟨H, 9, none⟩)) rfl (by kernel_rfl) (by kernel_rfl) (by kernel_rfl) (fun _ _ _ h => h) (Or.inl ⟨by rfl, fun w9 hS9 => ?_⟩) hHeld ?_
          · obtain ⟨g0, g1, g2, _⟩ := hS9
            go_simp
          simp only [Act.put, List.setIfInBounds_toArray, List.set_cons_zero, List.set_cons_succ]
          refine wpAnyH_take (i := 8) (oi := { dst := some 180, op := Go.Op.load 2 (Go.Operand.tmp 179), type := 2, pos := "header.go:178", after := #[{ on := 7, ground := Go.Ground.data }, { on := 5, ground := Go.Ground.guard }], guard := some (5, true) }) (v := .int .i64 M) rfl (by kernel_rfl) (by kernel_rfl) (by kernel_rfl) (fun _ _ _ h => h) (Or.inl ⟨by rfl, fun w9 hS9 => ?_⟩) hHeld ?_
          · obtain ⟨g0, g1, g2, _⟩ := hS9
            go_simp
          simp only [Act.put, List.setIfInBounds_toArray, List.set_cons_zero, List.set_cons_succ]
          refine wpAnyH_take (i := 9) (oi := { dst := some 181, op := Go.Op.binOp Go.BinOp.lss 2 (Go.Operand.tmp 180) (Go.Operand.const (Go.Value.int Go.IntKind.i64 8589934592)) 2, type := 4, pos := "header.go:178", after := #[{ on := 8, ground := Go.Ground.data }, { on := 5, ground := Go.Ground.guard }], guard := some (5, true) }) (v := .bool (decide (M < 8589934592))) rfl (by kernel_rfl) (by kernel_rfl) (by kernel_rfl) (fun _ _ _ h => h) (Or.inl ⟨by rfl, fun w9 hS9 => ?_⟩) hHeld ?_
          · obtain ⟨g0, g1, g2, _⟩ := hS9
            go_simp
          simp only [Act.put, List.setIfInBounds_toArray, List.set_cons_zero, List.set_cons_succ]
          refine wpAnyH_take (i := 10) (oi := { dst := some 182, op := Go.Op.pick (Go.Operand.tmp 177) (Go.Operand.tmp 181) (Go.Operand.const (Go.Value.bool false)), type := 4, pos := "header.go:178", after := #[{ on := 5, ground := Go.Ground.data }, { on := 9, ground := Go.Ground.data }], guard := none }) (v := .bool (decide (M < 8589934592))) rfl (by kernel_rfl) (by kernel_rfl) (by kernel_rfl) (fun _ _ _ h => h) (Or.inl ⟨by rfl, fun w9 hS9 => ?_⟩) hHeld ?_
          · obtain ⟨g0, g1, g2, _⟩ := hS9
            go_simp
          simp only [Act.put, List.setIfInBounds_toArray, List.set_cons_zero, List.set_cons_succ]
          refine wpAnyH_take (i := 12) (oi := { dst := some 184, op := Go.Op.fieldAddr 32 (Go.Operand.tmp 2) 10, type := 0, pos := "header.go:178", after := #[], guard := none }) (v := .pointer (some ⟨H, 11, none⟩)) rfl (by kernel_rfl) (by kernel_rfl) (by kernel_rfl) (fun _ _ _ h => h) (Or.inl ⟨by rfl, fun w9 hS9 => ?_⟩) hHeld ?_
          · obtain ⟨g0, g1, g2, _⟩ := hS9
            go_simp
          simp only [Act.put, List.setIfInBounds_toArray, List.set_cons_zero, List.set_cons_succ]
          refine wpAnyH_take (i := 13) (oi := { dst := some 185, op := Go.Op.load 4 (Go.Operand.tmp 184), type := 4, pos := "header.go:178", after := #[{ on := 12, ground := Go.Ground.data }], guard := none }) (v := .bool true) rfl (by kernel_rfl) (by kernel_rfl) (by kernel_rfl) (fun _ _ _ h => h) (Or.inl ⟨by rfl, fun w9 hS9 => ?_⟩) hHeld ?_
          · obtain ⟨g0, g1, g2, _⟩ := hS9
            go_simp
          simp only [Act.put, List.setIfInBounds_toArray, List.set_cons_zero, List.set_cons_succ]
          refine wpAnyH_take (i := 14) (oi := { dst := some 186, op := Go.Op.unOp Go.UnOp.not 4 (Go.Operand.tmp 185), type := 4, pos := "header.go:178", after := #[{ on := 13, ground := Go.Ground.data }], guard := none }) (v := .bool false) rfl (by kernel_rfl) (by kernel_rfl) (by kernel_rfl) (fun _ _ _ h => h) (Or.inl ⟨by rfl, fun w9 hS9 => ?_⟩) hHeld ?_
          · obtain ⟨g0, g1, g2, _⟩ := hS9
            go_simp
          simp only [Act.put, List.setIfInBounds_toArray, List.set_cons_zero, List.set_cons_succ]
          refine wpAnyH_ready (rs := [11]) (by kernel_rfl) (by simp) ?_
          refine AllReadyH.cons (o := { dst := some 183, op := Go.Op.call { callee := Go.Callee.value (Go.Operand.func 21), args := #[Go.Operand.tmp 182], argTypes := #[4] }, type := 3, pos := "header.go:178", after := #[{ on := 10, ground := Go.Ground.data }, { on := 5, ground := Go.Ground.chain }], guard := none }) rfl (fun K9 hK9 => ?_) AllReadyH.nil
          go_simp
          refine (specWhen _ _).mono ?_
          rintro e w' ⟨rfl, rfl⟩
          refine hK9.out _ _ (hHeld) (fun hHeld1 => ?_)
          clear hK9 K9
          try simp only [Act.put, List.setIfInBounds_toArray, List.set_cons_zero, List.set_cons_succ]
          refine wpAnyH_take (i := 15) (oi := { dst := some 187, op := Go.Op.move (Go.Operand.tmp 186), type := 4, pos := "header.go:178", after := #[{ on := 14, ground := Go.Ground.data }, { on := 11, ground := Go.Ground.chain }], guard := none }) (v := .bool false) rfl (by kernel_rfl) (by kernel_rfl) (by kernel_rfl) (fun _ _ _ h => h) (Or.inl ⟨by rfl, fun w9 hS9 => ?_⟩) hHeld1 ?_
          · obtain ⟨g0, g1, g2, _⟩ := hS9
            go_simp
          simp only [Act.put, List.setIfInBounds_toArray, List.set_cons_zero, List.set_cons_succ]
          refine wpAnyH_take (i := 16) (oi := { dst := some 188, op := Go.Op.fieldAddr 32 (Go.Operand.tmp 2) 11, type := 0, pos := "header.go:178", after := #[{ on := 15, ground := Go.Ground.guard }], guard := some (15, true) }) (v := undef) rfl (by kernel_rfl) (by kernel_rfl) (by kernel_rfl) (fun _ _ _ h => h) (Or.inr ⟨by rfl, rfl⟩) hHeld1 ?_
          simp only [Act.put, List.setIfInBounds_toArray, List.set_cons_zero, List.set_cons_succ]
          refine wpAnyH_take (i := 17) (oi := { dst := some 189, op := Go.Op.load 4 (Go.Operand.tmp 188), type := 4, pos := "header.go:178", after := #[{ on := 16, ground := Go.Ground.data }, { on := 15, ground := Go.Ground.guard }], guard := some (15, true) }) (v := undef) rfl (by kernel_rfl) (by kernel_rfl) (by kernel_rfl) (fun _ _ _ h => h) (Or.inr ⟨by rfl, rfl⟩) hHeld1 ?_
          simp only [Act.put, List.setIfInBounds_toArray, List.set_cons_zero, List.set_cons_succ]
          refine wpAnyH_take (i := 18) (oi := { dst := some 190, op := Go.Op.unOp Go.UnOp.not 4 (Go.Operand.tmp 189), type := 4, pos := "header.go:178", after := #[{ on := 17, ground := Go.Ground.data }, { on := 15, ground := Go.Ground.guard }], guard := some (15, true) }) (v := undef) rfl (by kernel_rfl) (by kernel_rfl) (by kernel_rfl) (fun _ _ _ h => h) (Or.inr ⟨by rfl, rfl⟩) hHeld1 ?_
          simp only [Act.put, List.setIfInBounds_toArray, List.set_cons_zero, List.set_cons_succ]
          refine wpAnyH_take (i := 19) (oi := { dst := some 191, op := Go.Op.pick (Go.Operand.tmp 187) (Go.Operand.tmp 190) (Go.Operand.const (Go.Value.bool false)), type := 4, pos := "header.go:178", after := #[{ on := 15, ground := Go.Ground.data }, { on := 18, ground := Go.Ground.data }], guard := none }) (v := .bool false) rfl (by kernel_rfl) (by kernel_rfl) (by kernel_rfl) (fun _ _ _ h => h) (Or.inl ⟨by rfl, fun w9 hS9 => ?_⟩) hHeld1 ?_
          · obtain ⟨g0, g1, g2, _⟩ := hS9
            go_simp
          simp only [Act.put, List.setIfInBounds_toArray, List.set_cons_zero, List.set_cons_succ]
          refine wpAnyH_ready (rs := [20]) (by kernel_rfl) (by simp) ?_
          refine AllReadyH.cons (o := { dst := some 192, op := Go.Op.call { callee := Go.Callee.value (Go.Operand.func 21), args := #[Go.Operand.tmp 191], argTypes := #[4] }, type := 3, pos := "header.go:178", after := #[{ on := 19, ground := Go.Ground.data }, { on := 15, ground := Go.Ground.chain }], guard := none }) rfl (fun K9 hK9 => ?_) AllReadyH.nil
          go_simp
          refine (specWhen _ _).mono ?_
          rintro e w' ⟨rfl, rfl⟩
          refine hK9.out _ _ (hHeld1) (fun hHeld2 => ?_)
          clear hK9 K9
          try simp only [Act.put, List.setIfInBounds_toArray, List.set_cons_zero, List.set_cons_succ]
          refine wpAnyH_ready (rs := [21]) (by kernel_rfl) (by simp) ?_
          refine AllReadyH.cons (o := { dst := some 193, op := Go.Op.buildSlice 27 3 #[(0, Go.Operand.tmp 172), (1, Go.Operand.tmp 183), (2, Go.Operand.tmp 192)], type := 27, pos := "header.go:178", after := #[{ on := 0, ground := Go.Ground.data }, { on := 11, ground := Go.Ground.data }, { on := 20, ground := Go.Ground.data }], guard := none }) rfl (fun K9 hK9 => ?_) AllReadyH.nil
          go_simp
          refine hK9.out _ _ (KA.out _ _ hHeld2) (fun hHeld3 => ?_)
          clear hK9 K9
          try simp only [Act.put, List.setIfInBounds_toArray, List.set_cons_zero, List.set_cons_succ]
          refine wpAnyH_ready (rs := [22]) (by kernel_rfl) (by simp) ?_
          refine AllReadyH.cons (o := { dst := some 194, op := Go.Op.call { callee := Go.Callee.value (Go.Operand.func 23), args := #[Go.Operand.tmp 193], argTypes := #[27] }, type := 3, pos := "header.go:178", after := #[{ on := 21, ground := Go.Ground.data }, { on := 20, ground := Go.Ground.chain }], guard := none }) rfl (fun K9 hK9 => ?_) AllReadyH.nil
          go_simp
          refine (all3d_1 _ _ _ _ _).mono ?_
          rintro e w' ⟨rfl, rfl⟩
          refine hK9.out _ _ (hHeld3) (fun hHeld4 => ?_)
          clear hK9 K9
          try simp only [Act.put, List.setIfInBounds_toArray, List.set_cons_zero, List.set_cons_succ]
          refine wpAnyH_take (i := 23) (oi := { dst := some 5, op := Go.Op.assign (Go.Operand.tmp 194), type := 3, pos := "header.go:178", after := #[{ on := 22, ground := Go.Ground.data }, { on := 22, ground := Go.Ground.chain }, { on := 0, ground := Go.Ground.phase }, { on := 1, ground := Go.Ground.phase }, { on := 2, ground := Go.Ground.phase }, { on := 3, ground := Go.Ground.phase }, { on := 4, ground := Go.Ground.phase }, { on := 5, ground := Go.Ground.phase }, { on := 6, ground := Go.Ground.phase }, { on := 7, ground := Go.Ground.phase }, { on := 8, ground := Go.Ground.phase }, { on := 9, ground := Go.Ground.phase }, { on := 10, ground := Go.Ground.phase }, { on := 11, ground := Go.Ground.phase }, { on := 12, ground := Go.Ground.phase }, { on := 13, ground := Go.Ground.phase }, { on := 14, ground := Go.Ground.phase }, { on := 15, ground := Go.Ground.phase }, { on := 16, ground := Go.Ground.phase }, { on := 17, ground := Go.Ground.phase }, { on := 18, ground := Go.Ground.phase }, { on := 19, ground := Go.Ground.phase }, { on := 20, ground := Go.Ground.phase }, { on := 21, ground := Go.Ground.phase }, { on := 22, ground := Go.Ground.phase }], guard := none }) (v := .int .i64 (allV [y6, whenV (decide (M < 8589934592)), whenV false])) rfl (by kernel_rfl) (by kernel_rfl) (by kernel_rfl) (fun _ _ _ h => h) (Or.inl ⟨by rfl, fun w9 hS9 => ?_⟩) hHeld4 ?_
          · obtain ⟨g0, g1, g2, _⟩ := hS9
            go_simp
          simp only [Act.put, List.setIfInBounds_toArray, List.set_cons_zero, List.set_cons_succ]
          refine wpAnyH_done (by kernel_rfl) ?_ _
          go_wp2_with fail
          go_meet
          case rel => exact ⟨_, rfl, Lib.hid (by simp [s0]), Lib.hid (KX.out _ hHeld4)⟩
        | false =>
          refine wp_region_held_drew (S := fun w' => w'.cell? ⟨H, 9, none⟩ = some (.int .i64 M) ∧ w'.cell? ⟨H, 11, none⟩ = some (.bool false) ∧ w'.cell? ⟨H, 12, none⟩ = some (.bool xc) ∧ Below w8.heap.size w8 w') (by kernel_rfl) (KS.out _ ((Below.refl _ w8).drew)) (fun hHeld => ?_)
          refine wpAnyH_take (i := 0) (oi := { dst := some 172, op := Go.Op.move (Go.Operand.tmp 5), type := 3, pos := "header.go:178", after := #[], guard := none }) (v := .int .i64 y6) rfl (by kernel_rfl) (by kernel_rfl) (by kernel_rfl) (fun _ _ _ h => h) (Or.inl ⟨by rfl, fun w9 hS9 => ?_⟩) hHeld ?_
          · obtain ⟨g0, g1, g2, _⟩ := hS9
            go_simp
          simp only [Act.put, List.setIfInBounds_toArray, List.set_cons_zero, List.set_cons_succ]
          refine wpAnyH_take (i := 1) (oi := { dst := some 173, op := Go.Op.fieldAddr 32 (Go.Operand.tmp 2) 9, type := 0, pos := "header.go:178", after := #[], guard := none }) (v := .pointer (some ⟨H, 9, none⟩)) rfl (by kernel_rfl) (by kernel_rfl) (by kernel_rfl) (fun _ _ _ h => h) (Or.inl ⟨by rfl, fun w9 hS9 => ?_⟩) hHeld ?_
          · obtain ⟨g0, g1, g2, _⟩ := hS9
            go_simp
          simp only [Act.put, List.setIfInBounds_toArray, List.set_cons_zero, List.set_cons_succ]
          refine wpAnyH_take (i := 2) (oi := { dst := some 174, op := Go.Op.fieldAddr 29 (Go.Operand.tmp 173) 0, type := 0, pos := "header.go:178", after := #[{ on := 1, ground := Go.Ground.data }], guard := none }) (v := .pointer (some ⟨H, 9, none⟩)) rfl (by kernel_rfl) (by kernel_rfl) (by kernel_rfl) (fun _ _ _ h => h) (Or.inl ⟨by rfl, fun w9 hS9 => ?_⟩) hHeld ?_
          · obtain ⟨g0, g1, g2, _⟩ := hS9
            go_simp
          simp only [Act.put, List.setIfInBounds_toArray, List.set_cons_zero, List.set_cons_succ]
          refine wpAnyH_take (i := 3) (oi := { dst := some 175, op := Go.Op.load 2 (Go.Operand.tmp 174), type := 2, pos := "header.go:178", after := #[{ on := 2, ground := Go.Ground.data }], guard := none }) (v := .int .i64 M) rfl (by kernel_rfl) (by kernel_rfl) (by kernel_rfl) (fun _ _ _ h => h) (Or.inl ⟨by rfl, fun w9 hS9 => ?_⟩) hHeld ?_
          · obtain ⟨g0, g1, g2, _⟩ := hS9
            go_simp
          simp only [Act.put, List.setIfInBounds_toArray, List.set_cons_zero, List.set_cons_succ]
          refine wpAnyH_take (i := 4) (oi := { dst := some 176, op := Go.Op.binOp Go.BinOp.geq 2 (Go.Operand.tmp 175) (Go.Operand.const (Go.Value.int Go.IntKind.i64 0)) 2, type := 4, pos := "header.go:178", after := #[{ on := 3, ground := Go.Ground.data }], guard := none }) (v := .bool true) rfl (by kernel_rfl) (by kernel_rfl) (by kernel_rfl) (fun _ _ _ h => h) (Or.inl ⟨by rfl, fun w9 hS9 => ?_⟩) hHeld ?_
          · obtain ⟨g0, g1, g2, _⟩ := hS9
            go_simp
          simp only [Act.put, List.setIfInBounds_toArray, List.set_cons_zero, List.set_cons_succ]
          refine wpAnyH_take (i := 5) (oi := { dst := some 177, op := Go.Op.move (Go.Operand.tmp 176), type := 4, pos := "header.go:178", after := #[{ on := 4, ground := Go.Ground.data }], guard := none }) (v := .bool true) rfl (by kernel_rfl) (by kernel_rfl) (by kernel_rfl) (fun _ _ _ h => h) (Or.inl ⟨by rfl, fun w9 hS9 => ?_⟩) hHeld ?_
          · obtain ⟨g0, g1, g2, _⟩ := hS9
            go_simp
          simp only [Act.put, List.setIfInBounds_toArray, List.set_cons_zero, List.set_cons_succ]
          refine wpAnyH_take (i := 6) (oi := { dst := some 178, op := Go.Op.fieldAddr 32 (Go.Operand.tmp 2) 9, type := 0, pos := "header.go:178", after := #[{ on := 5, ground := Go.Ground.guard }], guard := some (5, true) }) (v := .pointer (some ⟨H, 9, none⟩)) rfl (by kernel_rfl) (by kernel_rfl) (by kernel_rfl) (fun _ _ _ h => h) (Or.inl ⟨by rfl, fun w9 hS9 => ?_⟩) hHeld ?_
          · obtain ⟨g0, g1, g2, _⟩ := hS9
            go_simp
          simp only [Act.put, List.setIfInBounds_toArray, List.set_cons_zero, List.set_cons_succ]
          refine wpAnyH_take (i := 7) (oi := { dst := some 179, op := Go.Op.fieldAddr 29 (Go.Operand.tmp 178) 0, type := 0, pos := "header.go:178", after := #[{ on := 6, ground := Go.Ground.data }, { on := 5, ground := Go.Ground.guard }], guard := some (5, true) }) (v := .pointer (some ⟨H, 9, none⟩)) rfl (by kernel_rfl) (by kernel_rfl) (by kernel_rfl) (fun _ _ _ h => h) (Or.inl ⟨by rfl, fun w9 hS9 => ?_⟩) hHeld ?_
          · obtain ⟨g0, g1, g2, _⟩ := hS9
            go_simp
          simp only [Act.put, List.setIfInBounds_toArray, List.set_cons_zero, List.set_cons_succ]
          refine wpAnyH_take (i := 8) (oi := { dst := some 180, op := Go.Op.load 2 (Go.Operand.tmp 179), type := 2, pos := "header.go:178", after := #[{ on := 7, ground := Go.Ground.data }, { on := 5, ground := Go.Ground.guard }], guard := some (5, true) }) (v := .int .i64 M) rfl (by kernel_rfl) (by kernel_rfl) (by kernel_rfl) (fun _ _ _ h => h) (Or.inl ⟨by rfl, fun w9 hS9 => ?_⟩) hHeld ?_
          · obtain ⟨g0, g1, g2, _⟩ := hS9
            go_simp
          simp only [Act.put, List.setIfInBounds_toArray, List.set_cons_zero, List.set_cons_succ]
          refine wpAnyH_take (i := 9) (oi := { dst := some 181, op := Go.Op.binOp Go.BinOp.lss 2 (Go.Operand.tmp 180) (Go.Operand.const (Go.Value.int Go.IntKind.i64 8589934592)) 2, type := 4, pos := "header.go:178", after := #[{ on := 8, ground := Go.Ground.data }, { on := 5, ground := Go.Ground.guard }], guard := some (5, true) }) (v := .bool (decide (M < 8589934592))) rfl (by kernel_rfl) (by kernel_rfl) (by kernel_rfl) (fun _ _ _ h => h) (Or.inl ⟨by rfl, fun w9 hS9 => ?_⟩) hHeld ?_
          · obtain ⟨g0, g1, g2, _⟩ := hS9
            go_simp
          simp only [Act.put, List.setIfInBounds_toArray, List.set_cons_zero, List.set_cons_succ]
          refine wpAnyH_take (i := 10) (oi := { dst := some 182, op := Go.Op.pick (Go.Operand.tmp 177) (Go.Operand.tmp 181) (Go.Operand.const (Go.Value.bool false)), type := 4, pos := "header.go:178", after := #[{ on := 5, ground := Go.Ground.data }, { on := 9, ground := Go.Ground.data }], guard := none }) (v := .bool (decide (M < 8589934592))) rfl (by kernel_rfl) (by kernel_rfl) (by kernel_rfl) (fun _ _ _ h => h) (Or.inl ⟨by rfl, fun w9 hS9 => ?_⟩) hHeld ?_
          · obtain ⟨g0, g1, g2, _⟩ := hS9
            go_simp
          simp only [Act.put, List.setIfInBounds_toArray, List.set_cons_zero, List.set_cons_succ]
          refine wpAnyH_take (i := 12) (oi := { dst := some 184, op := Go.Op.fieldAddr 32 (Go.Operand.tmp 2) 10, type := 0, pos := "header.go:178", after := #[], guard := none }) (v := .pointer (some ⟨H, 11, none⟩)) rfl (by kernel_rfl) (by kernel_rfl) (by kernel_rfl) (fun _ _ _ h => h) (Or.inl ⟨by rfl, fun w9 hS9 => ?_⟩) hHeld ?_
          · obtain ⟨g0, g1, g2, _⟩ := hS9
            go_simp
          simp only [Act.put, List.setIfInBounds_toArray, List.set_cons_zero, List.set_cons_succ]
          refine wpAnyH_take (i := 13) (oi := { dst := some 185, op := Go.Op.load 4 (Go.Operand.tmp 184), type := 4, pos := "header.go:178", after := #[{ on := 12, ground := Go.Ground.data }], guard := none }) (v := .bool false) rfl (by kernel_rfl) (by kernel_rfl) (by kernel_rfl) (fun _ _ _ h => h) (Or.inl ⟨by rfl, fun w9 hS9 => ?_⟩) hHeld ?_
          · obtain ⟨g0, g1, g2, _⟩ := hS9
            go_simp
          simp only [Act.put, List.setIfInBounds_toArray, List.set_cons_zero, List.set_cons_succ]
          refine wpAnyH_take (i := 14) (oi := { dst := some 186, op := Go.Op.unOp Go.UnOp.not 4 (Go.Operand.tmp 185), type := 4, pos := "header.go:178", after := #[{ on := 13, ground := Go.Ground.data }], guard := none }) (v := .bool true) rfl (by kernel_rfl) (by kernel_rfl) (by kernel_rfl) (fun _ _ _ h => h) (Or.inl ⟨by rfl, fun w9 hS9 => ?_⟩) hHeld ?_
          · obtain ⟨g0, g1, g2, _⟩ := hS9
            go_simp
          simp only [Act.put, List.setIfInBounds_toArray, List.set_cons_zero, List.set_cons_succ]
          refine wpAnyH_ready (rs := [11]) (by kernel_rfl) (by simp) ?_
          refine AllReadyH.cons (o := { dst := some 183, op := Go.Op.call { callee := Go.Callee.value (Go.Operand.func 21), args := #[Go.Operand.tmp 182], argTypes := #[4] }, type := 3, pos := "header.go:178", after := #[{ on := 10, ground := Go.Ground.data }, { on := 5, ground := Go.Ground.chain }], guard := none }) rfl (fun K9 hK9 => ?_) AllReadyH.nil
          go_simp
          refine (specWhen _ _).mono ?_
          rintro e w' ⟨rfl, rfl⟩
          refine hK9.out _ _ (hHeld) (fun hHeld1 => ?_)
          clear hK9 K9
          try simp only [Act.put, List.setIfInBounds_toArray, List.set_cons_zero, List.set_cons_succ]
          refine wpAnyH_take (i := 15) (oi := { dst := some 187, op := Go.Op.move (Go.Operand.tmp 186), type := 4, pos := "header.go:178", after := #[{ on := 14, ground := Go.Ground.data }, { on := 11, ground := Go.Ground.chain }], guard := none }) (v := .bool true) rfl (by kernel_rfl) (by kernel_rfl) (by kernel_rfl) (fun _ _ _ h => h) (Or.inl ⟨by rfl, fun w9 hS9 => ?_⟩) hHeld1 ?_
          · obtain ⟨g0, g1, g2, _⟩ := hS9
            go_simp
          simp only [Act.put, List.setIfInBounds_toArray, List.set_cons_zero, List.set_cons_succ]
          refine wpAnyH_take (i := 16) (oi := { dst := some 188, op := Go.Op.fieldAddr 32 (Go.Operand.tmp 2) 11, type := 0, pos := "header.go:178", after := #[{ on := 15, ground := Go.Ground.guard }], guard := some (15, true) }) (v := .pointer (some ⟨H, 12, none⟩)) rfl (by kernel_rfl) (by kernel_rfl) (by kernel_rfl) (fun _ _ _ h => h) (Or.inl ⟨by rfl, fun w9 hS9 => ?_⟩) hHeld1 ?_
          · obtain ⟨g0, g1, g2, _⟩ := hS9
            go_simp
          simp only [Act.put, List.setIfInBounds_toArray, List.set_cons_zero, List.set_cons_succ]
          refine wpAnyH_take (i := 17) (oi := { dst := some 189, op := Go.Op.load 4 (Go.Operand.tmp 188), type := 4, pos := "header.go:178", after := #[{ on := 16, ground := Go.Ground.data }, { on := 15, ground := Go.Ground.guard }], guard := some (15, true) }) (v := .bool xc) rfl (by kernel_rfl) (by kernel_rfl) (by kernel_rfl) (fun _ _ _ h => h) (Or.inl ⟨by rfl, fun w9 hS9 => ?_⟩) hHeld1 ?_
          · obtain ⟨g0, g1, g2, _⟩ := hS9
            go_simp
          simp only [Act.put, List.setIfInBounds_toArray, List.set_cons_zero, List.set_cons_succ]
          refine wpAnyH_take (i := 18) (oi := { dst := some 190, op := Go.Op.unOp Go.UnOp.not 4 (Go.Operand.tmp 189), type := 4, pos := "header.go:178", after := #[{ on := 17, ground := Go.Ground.data }, { on := 15, ground := Go.Ground.guard }], guard := some (15, true) }) (v := .bool (!xc)) rfl (by kernel_rfl) (by kernel_rfl) (by kernel_rfl) (fun _ _ _ h => h) (Or.inl ⟨by rfl, fun w9 hS9 => ?_⟩) hHeld1 ?_
          · obtain ⟨g0, g1, g2, _⟩ := hS9
            go_simp
          simp only [Act.put, List.setIfInBounds_toArray, List.set_cons_zero, List.set_cons_succ]
          refine wpAnyH_take (i := 19) (oi := { dst := some 191, op := Go.Op.pick (Go.Operand.tmp 187) (Go.Operand.tmp 190) (Go.Operand.const (Go.Value.bool false)), type := 4, pos := "header.go:178", after := #[{ on := 15, ground := Go.Ground.data }, { on := 18, ground := Go.Ground.data }], guard := none }) (v := .bool (!xc)) rfl (by kernel_rfl) (by kernel_rfl) (by kernel_rfl) (fun _ _ _ h => h) (Or.inl ⟨by rfl, fun w9 hS9 => ?_⟩) hHeld1 ?_
          · obtain ⟨g0, g1, g2, _⟩ := hS9
            go_simp
          simp only [Act.put, List.setIfInBounds_toArray, List.set_cons_zero, List.set_cons_succ]
          refine wpAnyH_ready (rs := [20]) (by kernel_rfl) (by simp) ?_
          refine AllReadyH.cons (o := { dst := some 192, op := Go.Op.call { callee := Go.Callee.value (Go.Operand.func 21), args := #[Go.Operand.tmp 191], argTypes := #[4] }, type := 3, pos := "header.go:178", after := #[{ on := 19, ground := Go.Ground.data }, { on := 15, ground := Go.Ground.chain }], guard := none }) rfl (fun K9 hK9 => ?_) AllReadyH.nil
          go_simp
          refine (specWhen _ _).mono ?_
          rintro e w' ⟨rfl, rfl⟩
          refine hK9.out _ _ (hHeld1) (fun hHeld2 => ?_)
          clear hK9 K9
          try simp only [Act.put, List.setIfInBounds_toArray, List.set_cons_zero, List.set_cons_succ]
          refine wpAnyH_ready (rs := [21]) (by kernel_rfl) (by simp) ?_
          refine AllReadyH.cons (o := { dst := some 193, op := Go.Op.buildSlice 27 3 #[(0, Go.Operand.tmp 172), (1, Go.Operand.tmp 183), (2, Go.Operand.tmp 192)], type := 27, pos := "header.go:178", after := #[{ on := 0, ground := Go.Ground.data }, { on := 11, ground := Go.Ground.data }, { on := 20, ground := Go.Ground.data }], guard := none }) rfl (fun K9 hK9 => ?_) AllReadyH.nil
          go_simp
          refine hK9.out _ _ (KA.out _ _ hHeld2) (fun hHeld3 => ?_)
          clear hK9 K9
          try simp only [Act.put, List.setIfInBounds_toArray, List.set_cons_zero, List.set_cons_succ]
          refine wpAnyH_ready (rs := [22]) (by kernel_rfl) (by simp) ?_
          refine AllReadyH.cons (o := { dst := some 194, op := Go.Op.call { callee := Go.Callee.value (Go.Operand.func 23), args := #[Go.Operand.tmp 193], argTypes := #[27] }, type := 3, pos := "header.go:178", after := #[{ on := 21, ground := Go.Ground.data }, { on := 20, ground := Go.Ground.chain }], guard := none }) rfl (fun K9 hK9 => ?_) AllReadyH.nil
          go_simp
          refine (all3d_1 _ _ _ _ _).mono ?_
          rintro e w' ⟨rfl, rfl⟩
          refine hK9.out _ _ (hHeld3) (fun hHeld4 => ?_)
          clear hK9 K9
          try simp only [Act.put, List.setIfInBounds_toArray, List.set_cons_zero, List.set_cons_succ]
          refine wpAnyH_take (i := 23) (oi := { dst := some 5, op := Go.Op.assign (Go.Operand.tmp 194), type := 3, pos := "header.go:178", after := #[{ on := 22, ground := Go.Ground.data }, { on := 22, ground := Go.Ground.chain }, { on := 0, ground := Go.Ground.phase }, { on := 1, ground := Go.Ground.phase }, { on := 2, ground := Go.Ground.phase }, { on := 3, ground := Go.Ground.phase }, { on := 4, ground := Go.Ground.phase }, { on := 5, ground := Go.Ground.phase }, { on := 6, ground := Go.Ground.phase }, { on := 7, ground := Go.Ground.phase }, { on := 8, ground := Go.Ground.phase }, { on := 9, ground := Go.Ground.phase }, { on := 10, ground := Go.Ground.phase }, { on := 11, ground := Go.Ground.phase }, { on := 12, ground := Go.Ground.phase }, { on := 13, ground := Go.Ground.phase }, { on := 14, ground := Go.Ground.phase }, { on := 15, ground := Go.Ground.phase }, { on := 16, ground := Go.Ground.phase }, { on := 17, ground := Go.Ground.phase }, { on := 18, ground := Go.Ground.phase }, { on := 19, ground := Go.Ground.phase }, { on := 20, ground := Go.Ground.phase }, { on := 21, ground := Go.Ground.phase }, { on := 22, ground := Go.Ground.phase }], guard := none }) (v := .int .i64 (allV [y6, whenV (decide (M < 8589934592)), whenV (!xc)])) rfl (by kernel_rfl) (by kernel_rfl) (by kernel_rfl) (fun _ _ _ h => h) (Or.inl ⟨by rfl, fun w9 hS9 => ?_⟩) hHeld4 ?_
          · obtain ⟨g0, g1, g2, _⟩ := hS9
            go_simp
          simp only [Act.put, List.setIfInBounds_toArray, List.set_cons_zero, List.set_cons_succ]
          refine wpAnyH_done (by kernel_rfl) ?_ _
          go_wp2_with fail
          go_meet
          case rel => exact ⟨_, rfl, Lib.hid (by simp [s0]), Lib.hid (KX.out _ hHeld4)⟩
      · have s1 : ¬ (0 : Int) ≤ M := (by omega)
        cases xa with
        | true =>
          refine wp_region_held_drew (S := fun w' => w'.cell? ⟨H, 9, none⟩ = some (.int .i64 M) ∧ w'.cell? ⟨H, 11, none⟩ = some (.bool true) ∧ w'.cell? ⟨H, 12, none⟩ = some (.bool xc) ∧ Below w8.heap.size w8 w') (by kernel_rfl) (KS.out _ ((Below.refl _ w8).drew)) (fun hHeld => ?_)
          refine wpAnyH_take (i := 0) (oi := { dst := some 172, op := Go.Op.move (Go.Operand.tmp 5), type := 3, pos := "header.go:178", after := #[], guard := none }) (v := .int .i64 y6) rfl (by kernel_rfl) (by kernel_rfl) (by kernel_rfl) (fun _ _ _ h => h) (Or.inl ⟨by rfl, fun w9 hS9 => ?_⟩) hHeld ?_
          · obtain ⟨g0, g1, g2, _⟩ := hS9
            go_simp
          simp only [Act.put, List.setIfInBounds_toArray, List.set_cons_zero, List.set_cons_succ]
          refine wpAnyH_take (i := 1) (oi := { dst := some 173, op := Go.Op.fieldAddr 32 (Go.Operand.tmp 2) 9, type := 0, pos := "header.go:178", after := #[], guard := none }) (v := .pointer (some ⟨H, 9, none⟩)) rfl (by kernel_rfl) (by kernel_rfl) (by kernel_rfl) (fun _ _ _ h => h) (Or.inl ⟨by rfl, fun w9 hS9 => ?_⟩) hHeld ?_
          · obtain ⟨g0, g1, g2, _⟩ := hS9
            go_simp
          simp only [Act.put, List.setIfInBounds_toArray, List.set_cons_zero, List.set_cons_succ]
          refine wpAnyH_take (i := 2) (oi := { dst := some 174, op := Go.Op.fieldAddr 29 (Go.Operand.tmp 173) 0, type := 0, pos := "header.go:178", after := #[{ on := 1, ground := Go.Ground.data }], guard := none }) (v := .pointer (some ⟨H, 9, none⟩)) rfl (by kernel_rfl) (by kernel_rfl) (by kernel_rfl) (fun _ _ _ h => h) (Or.inl ⟨by rfl, fun w9 hS9 => ?_⟩) hHeld ?_
          · obtain ⟨g0, g1, g2, _⟩ := hS9
            go_simp
          simp only [Act.put, List.setIfInBounds_toArray, List.set_cons_zero, List.set_cons_succ]
          refine wpAnyH_take (i := 3) (oi := { dst := some 175, op := Go.Op.load 2 (Go.Operand.tmp 174), type := 2, pos := "header.go:178", after := #[{ on := 2, ground := Go.Ground.data }], guard := none }) (v := .int .i64 M) rfl (by kernel_rfl) (by kernel_rfl) (by kernel_rfl) (fun _ _ _ h => h) (Or.inl ⟨by rfl, fun w9 hS9 => ?_⟩) hHeld ?_
          · obtain ⟨g0, g1, g2, _⟩ := hS9
            go_simp
          simp only [Act.put, List.setIfInBounds_toArray, List.set_cons_zero, List.set_cons_succ]
          refine wpAnyH_take (i := 4) (oi := { dst := some 176, op := Go.Op.binOp Go.BinOp.geq 2 (Go.Operand.tmp 175) (Go.Operand.const (Go.Value.int Go.IntKind.i64 0)) 2, type := 4, pos := "header.go:178", after := #[{ on := 3, ground := Go.Ground.data }], guard := none }) (v := .bool false) rfl (by kernel_rfl) (by kernel_rfl) (by kernel_rfl) (fun _ _ _ h => h) (Or.inl ⟨by rfl, fun w9 hS9 => ?_⟩) hHeld ?_
          · obtain ⟨g0, g1, g2, _⟩ := hS9
            go_simp
          simp only [Act.put, List.setIfInBounds_toArray, List.set_cons_zero, List.set_cons_succ]
          refine wpAnyH_take (i := 5) (oi := { dst := some 177, op := Go.Op.move (Go.Operand.tmp 176), type := 4, pos := "header.go:178", after := #[{ on := 4, ground := Go.Ground.data }], guard := none }) (v := .bool false) rfl (by kernel_rfl) (by kernel_rfl) (by kernel_rfl) (fun _ _ _ h => h) (Or.inl ⟨by rfl, fun w9 hS9 => ?_⟩) hHeld ?_
          · obtain ⟨g0, g1, g2, _⟩ := hS9
            go_simp
          simp only [Act.put, List.setIfInBounds_toArray, List.set_cons_zero, List.set_cons_succ]
          refine wpAnyH_take (i := 6) (oi := { dst := some 178, op := Go.Op.fieldAddr 32 (Go.Operand.tmp 2) 9, type := 0, pos := "header.go:178", after := #[{ on := 5, ground := Go.Ground.guard }], guard := some (5, true) }) (v := undef) rfl (by kernel_rfl) (by kernel_rfl) (by kernel_rfl) (fun _ _ _ h => h) (Or.inr ⟨by rfl, rfl⟩) hHeld ?_
          simp only [Act.put, List.setIfInBounds_toArray, List.set_cons_zero, List.set_cons_succ]
          refine wpAnyH_take (i := 7) (oi := { dst := some 179, op := Go.Op.fieldAddr 29 (Go.Operand.tmp 178) 0, type := 0, pos := "header.go:178", after := #[{ on := 6, ground := Go.Ground.data }, { on := 5, ground := Go.Ground.guard }], guard := some (5, true) }) (v := undef) rfl (by kernel_rfl) (by kernel_rfl) (by kernel_rfl) (fun _ _ _ h => h) (Or.inr ⟨by rfl, rfl⟩) hHeld ?_
          simp only [Act.put, List.setIfInBounds_toArray, List.set_cons_zero, List.set_cons_succ]
          refine wpAnyH_take (i := 8) (oi := { dst := some 180, op := Go.Op.load 2 (Go.Operand.tmp 179), type := 2, pos := "header.go:178", after := #[{ on := 7, ground := Go.Ground.data }, { on := 5, ground := Go.Ground.guard }], guard := some (5, true) }) (v := undef) rfl (by kernel_rfl) (by kernel_rfl) (by kernel_rfl) (fun _ _ _ h => h) (Or.inr ⟨by rfl, rfl⟩) hHeld ?_
          simp only [Act.put, List.setIfInBounds_toArray, List.set_cons_zero, List.set_cons_succ]
          refine wpAnyH_take (i := 9) (oi := { dst := some 181, op := Go.Op.binOp Go.BinOp.lss 2 (Go.Operand.tmp 180) (Go.Operand.const (Go.Value.int Go.IntKind.i64 8589934592)) 2, type := 4, pos := "header.go:178", after := #[{ on := 8, ground := Go.Ground.data }, { on := 5, ground := Go.Ground.guard }], guard := some (5, true) }) (v := undef) rfl (by kernel_rfl) (by kernel_rfl) (by kernel_rfl) (fun _ _ _ h => h) (Or.inr ⟨by rfl, rfl⟩) hHeld ?_
          simp only [Act.put, List.setIfInBounds_toArray, List.set_cons_zero, List.set_cons_succ]
          refine wpAnyH_take (i := 10) (oi := { dst := some 182, op := Go.Op.pick (Go.Operand.tmp 177) (Go.Operand.tmp 181) (Go.Operand.const (Go.Value.bool false)), type := 4, pos := "header.go:178", after := #[{ on := 5, ground := Go.Ground.data }, { on := 9, ground := Go.Ground.data }], guard := none }) (v := .bool false) rfl (by kernel_rfl) (by kernel_rfl) (by kernel_rfl) (fun _ _ _ h => h) (Or.inl ⟨by rfl, fun w9 hS9 => ?_⟩) hHeld ?_
          · obtain ⟨g0, g1, g2, _⟩ := hS9
            go_simp
          simp only [Act.put, List.setIfInBounds_toArray, List.set_cons_zero, List.set_cons_succ]
          refine wpAnyH_take (i := 12) (oi := { dst := some 184, op := Go.Op.fieldAddr 32 (Go.Operand.tmp 2) 10, type := 0, pos := "header.go:178", after := #[], guard := none }) (v := .pointer (some ⟨H, 11, none⟩)) rfl (by kernel_rfl) (by kernel_rfl) (by kernel_rfl) (fun _ _ _ h => h) (Or.inl ⟨by rfl, fun w9 hS9 => ?_⟩) hHeld ?_
          · obtain ⟨g0, g1, g2, _⟩ := hS9
            go_simp
          simp only [Act.put, List.setIfInBounds_toArray, List.set_cons_zero, List.set_cons_succ]
          refine wpAnyH_take (i := 13) (oi := { dst := some 185, op := Go.Op.load 4 (Go.Operand.tmp 184), type := 4, pos := "header.go:178", after := #[{ on := 12, ground := Go.Ground.data }], guard := none }) (v := .bool true) rfl (by kernel_rfl) (by kernel_rfl) (by kernel_rfl) (fun _ _ _ h => h) (Or.inl ⟨by rfl, fun w9 hS9 => ?_⟩) hHeld ?_
          · obtain ⟨g0, g1, g2, _⟩ := hS9
            go_simp
          simp only [Act.put, List.setIfInBounds_toArray, List.set_cons_zero, List.set_cons_succ]
          refine wpAnyH_take (i := 14) (oi := { dst := some 186, op := Go.Op.unOp Go.UnOp.not 4 (Go.Operand.tmp 185), type := 4, pos := "header.go:178", after := #[{ on := 13, ground := Go.Ground.data }], guard := none }) (v := .bool false) rfl (by kernel_rfl) (by kernel_rfl) (by kernel_rfl) (fun _ _ _ h => h) (Or.inl ⟨by rfl, fun w9 hS9 => ?_⟩) hHeld ?_
          · obtain ⟨g0, g1, g2, _⟩ := hS9
            go_simp
          simp only [Act.put, List.setIfInBounds_toArray, List.set_cons_zero, List.set_cons_succ]
          refine wpAnyH_ready (rs := [11]) (by kernel_rfl) (by simp) ?_
          refine AllReadyH.cons (o := { dst := some 183, op := Go.Op.call { callee := Go.Callee.value (Go.Operand.func 21), args := #[Go.Operand.tmp 182], argTypes := #[4] }, type := 3, pos := "header.go:178", after := #[{ on := 10, ground := Go.Ground.data }, { on := 5, ground := Go.Ground.chain }], guard := none }) rfl (fun K9 hK9 => ?_) AllReadyH.nil
          go_simp
          refine (specWhen _ _).mono ?_
          rintro e w' ⟨rfl, rfl⟩
          refine hK9.out _ _ (hHeld) (fun hHeld1 => ?_)
          clear hK9 K9
          try simp only [Act.put, List.setIfInBounds_toArray, List.set_cons_zero, List.set_cons_succ]
          refine wpAnyH_take (i := 15) (oi := { dst := some 187, op := Go.Op.move (Go.Operand.tmp 186), type := 4, pos := "header.go:178", after := #[{ on := 14, ground := Go.Ground.data }, { on := 11, ground := Go.Ground.chain }], guard := none }) (v := .bool false) rfl (by kernel_rfl) (by kernel_rfl) (by kernel_rfl) (fun _ _ _ h => h) (Or.inl ⟨by rfl, fun w9 hS9 => ?_⟩) hHeld1 ?_
          · obtain ⟨g0, g1, g2, _⟩ := hS9
            go_simp
          simp only [Act.put, List.setIfInBounds_toArray, List.set_cons_zero, List.set_cons_succ]
          refine wpAnyH_take (i := 16) (oi := { dst := some 188, op := Go.Op.fieldAddr 32 (Go.Operand.tmp 2) 11, type := 0, pos := "header.go:178", after := #[{ on := 15, ground := Go.Ground.guard }], guard := some (15, true) }) (v := undef) rfl (by kernel_rfl) (by kernel_rfl) (by kernel_rfl) (fun _ _ _ h => h) (Or.inr ⟨by rfl, rfl⟩) hHeld1 ?_
          simp only [Act.put, List.setIfInBounds_toArray, List.set_cons_zero, List.set_cons_succ]
          refine wpAnyH_take (i := 17) (oi := { dst := some 189, op := Go.Op.load 4 (Go.Operand.tmp 188), type := 4, pos := "header.go:178", after := #[{ on := 16, ground := Go.Ground.data }, { on := 15, ground := Go.Ground.guard }], guard := some (15, true) }) (v := undef) rfl (by kernel_rfl) (by kernel_rfl) (by kernel_rfl) (fun _ _ _ h => h) (Or.inr ⟨by rfl, rfl⟩) hHeld1 ?_
          simp only [Act.put, List.setIfInBounds_toArray, List.set_cons_zero, List.set_cons_succ]
          refine wpAnyH_take (i := 18) (oi := { dst := some 190, op := Go.Op.unOp Go.UnOp.not 4 (Go.Operand.tmp 189), type := 4, pos := "header.go:178", after := #[{ on := 17, ground := Go.Ground.data }, { on := 15, ground := Go.Ground.guard }], guard := some (15, true) }) (v := undef) rfl (by kernel_rfl) (by kernel_rfl) (by kernel_rfl) (fun _ _ _ h => h) (Or.inr ⟨by rfl, rfl⟩) hHeld1 ?_
          simp only [Act.put, List.setIfInBounds_toArray, List.set_cons_zero, List.set_cons_succ]
          refine wpAnyH_take (i := 19) (oi := { dst := some 191, op := Go.Op.pick (Go.Operand.tmp 187) (Go.Operand.tmp 190) (Go.Operand.const (Go.Value.bool false)), type := 4, pos := "header.go:178", after := #[{ on := 15, ground := Go.Ground.data }, { on := 18, ground := Go.Ground.data }], guard := none }) (v := .bool false) rfl (by kernel_rfl) (by kernel_rfl) (by kernel_rfl) (fun _ _ _ h => h) (Or.inl ⟨by rfl, fun w9 hS9 => ?_⟩) hHeld1 ?_
          · obtain ⟨g0, g1, g2, _⟩ := hS9
            go_simp
          simp only [Act.put, List.setIfInBounds_toArray, List.set_cons_zero, List.set_cons_succ]
          refine wpAnyH_ready (rs := [20]) (by kernel_rfl) (by simp) ?_
          refine AllReadyH.cons (o := { dst := some 192, op := Go.Op.call { callee := Go.Callee.value (Go.Operand.func 21), args := #[Go.Operand.tmp 191], argTypes := #[4] }, type := 3, pos := "header.go:178", after := #[{ on := 19, ground := Go.Ground.data }, { on := 15, ground := Go.Ground.chain }], guard := none }) rfl (fun K9 hK9 => ?_) AllReadyH.nil
          go_simp
          refine (specWhen _ _).mono ?_
          rintro e w' ⟨rfl, rfl⟩
          refine hK9.out _ _ (hHeld1) (fun hHeld2 => ?_)
          clear hK9 K9
          try simp only [Act.put, List.setIfInBounds_toArray, List.set_cons_zero, List.set_cons_succ]
          refine wpAnyH_ready (rs := [21]) (by kernel_rfl) (by simp) ?_
          refine AllReadyH.cons (o := { dst := some 193, op := Go.Op.buildSlice 27 3 #[(0, Go.Operand.tmp 172), (1, Go.Operand.tmp 183), (2, Go.Operand.tmp 192)], type := 27, pos := "header.go:178", after := #[{ on := 0, ground := Go.Ground.data }, { on := 11, ground := Go.Ground.data }, { on := 20, ground := Go.Ground.data }], guard := none }) rfl (fun K9 hK9 => ?_) AllReadyH.nil
          go_simp
          refine hK9.out _ _ (KA.out _ _ hHeld2) (fun hHeld3 => ?_)
          clear hK9 K9
          try simp only [Act.put, List.setIfInBounds_toArray, List.set_cons_zero, List.set_cons_succ]
          refine wpAnyH_ready (rs := [22]) (by kernel_rfl) (by simp) ?_
          refine AllReadyH.cons (o := { dst := some 194, op := Go.Op.call { callee := Go.Callee.value (Go.Operand.func 23), args := #[Go.Operand.tmp 193], argTypes := #[27] }, type := 3, pos := "header.go:178", after := #[{ on := 21, ground := Go.Ground.data }, { on := 20, ground := Go.Ground.chain }], guard := none }) rfl (fun K9 hK9 => ?_) AllReadyH.nil
          go_simp
          refine (all3d_1 _ _ _ _ _).mono ?_
          rintro e w' ⟨rfl, rfl⟩
          refine hK9.out _ _ (hHeld3) (fun hHeld4 => ?_)
          clear hK9 K9
          try simp only [Act.put, List.setIfInBounds_toArray, List.set_cons_zero, List.set_cons_succ]
          refine wpAnyH_take (i := 23) (oi := { dst := some 5, op := Go.Op.assign (Go.Operand.tmp 194), type := 3, pos := "header.go:178", after := #[{ on := 22, ground := Go.Ground.data }, { on := 22, ground := Go.Ground.chain }, { on := 0, ground := Go.Ground.phase }, { on := 1, ground := Go.Ground.phase }, { on := 2, ground := Go.Ground.phase }, { on := 3, ground := Go.Ground.phase }, { on := 4, ground := Go.Ground.phase }, { on := 5, ground := Go.Ground.phase }, { on := 6, ground := Go.Ground.phase }, { on := 7, ground := Go.Ground.phase }, { on := 8, ground := Go.Ground.phase }, { on := 9, ground := Go.Ground.phase }, { on := 10, ground := Go.Ground.phase }, { on := 11, ground := Go.Ground.phase }, { on := 12, ground := Go.Ground.phase }, { on := 13, ground := Go.Ground.phase }, { on := 14, ground := Go.Ground.phase }, { on := 15, ground := Go.Ground.phase }, { on := 16, ground := Go.Ground.phase }, { on := 17, ground := Go.Ground.phase }, { on := 18, ground := Go.Ground.phase }, { on := 19, ground := Go.Ground.phase }, { on := 20, ground := Go.Ground.phase }, { on := 21, ground := Go.Ground.phase }, { on := 22, ground := Go.Ground.phase }], guard := none }) (v := .int .i64 (allV [y6, whenV false, whenV false])) rfl (by kernel_rfl) (by kernel_rfl) (by kernel_rfl) (fun _ _ _ h => h) (Or.inl ⟨by rfl, fun w9 hS9 => ?_⟩) hHeld4 ?_
          · obtain ⟨g0, g1, g2, _⟩ := hS9
            go_simp
          simp only [Act.put, List.setIfInBounds_toArray, List.set_cons_zero, List.set_cons_succ]
          refine wpAnyH_done (by kernel_rfl) ?_ _
          go_wp2_with fail
          go_meet
          case rel => exact ⟨_, rfl, Lib.hid (by have s11 : ¬ (0 : Int) ≤ M := (by omega); simp [s11]), Lib.hid (KX.out _ hHeld4)⟩
        | false =>
          refine wp_region_held_drew (S := fun w' => w'.cell? ⟨H, 9, none⟩ = some (.int .i64 M) ∧ w'.cell? ⟨H, 11, none⟩ = some (.bool false) ∧ w'.cell? ⟨H, 12, none⟩ = some (.bool xc) ∧ Below w8.heap.size w8 w') (by kernel_rfl) (KS.out _ ((Below.refl _ w8).drew)) (fun hHeld => ?_)
          refine wpAnyH_take (i := 0) (oi := { dst := some 172, op := Go.Op.move (Go.Operand.tmp 5), type := 3, pos := "header.go:178", after := #[], guard := none }) (v := .int .i64 y6) rfl (by kernel_rfl) (by kernel_rfl) (by kernel_rfl) (fun _ _ _ h => h) (Or.inl ⟨by rfl, fun w9 hS9 => ?_⟩) hHeld ?_
          · obtain ⟨g0, g1, g2, _⟩ := hS9
            go_simp
          simp only [Act.put, List.setIfInBounds_toArray, List.set_cons_zero, List.set_cons_succ]
          refine wpAnyH_take (i := 1) (oi := { dst := some 173, op := Go.Op.fieldAddr 32 (Go.Operand.tmp 2) 9, type := 0, pos := "header.go:178", after := #[], guard := none }) (v := .pointer (some ⟨H, 9, none⟩)) rfl (by kernel_rfl) (by kernel_rfl) (by kernel_rfl) (fun _ _ _ h => h) (Or.inl ⟨by rfl, fun w9 hS9 => ?_⟩) hHeld ?_
          · obtain ⟨g0, g1, g2, _⟩ := hS9
            go_simp
          simp only [Act.put, List.setIfInBounds_toArray, List.set_cons_zero, List.set_cons_succ]
          refine wpAnyH_take (i := 2) (oi := { dst := some 174, op := Go.Op.fieldAddr 29 (Go.Operand.tmp 173) 0, type := 0, pos := "header.go:178", after := #[{ on := 1, ground := Go.Ground.data }], guard := none }) (v := .pointer (some ⟨H, 9, none⟩)) rfl (by kernel_rfl) (by kernel_rfl) (by kernel_rfl) (fun _ _ _ h => h) (Or.inl ⟨by rfl, fun w9 hS9 => ?_⟩) hHeld ?_
          · obtain ⟨g0, g1, g2, _⟩ := hS9
            go_simp
          simp only [Act.put, List.setIfInBounds_toArray, List.set_cons_zero, List.set_cons_succ]
          refine wpAnyH_take (i := 3) (oi := { dst := some 175, op := Go.Op.load 2 (Go.Operand.tmp 174), type := 2, pos := "header.go:178", after := #[{ on := 2, ground := Go.Ground.data }], guard := none }) (v := .int .i64 M) rfl (by kernel_rfl) (by kernel_rfl) (by kernel_rfl) (fun _ _ _ h => h) (Or.inl ⟨by rfl, fun w9 hS9 => ?_⟩) hHeld ?_
          · obtain ⟨g0, g1, g2, _⟩ := hS9
            go_simp
          simp only [Act.put, List.setIfInBounds_toArray, List.set_cons_zero, List.set_cons_succ]
          refine wpAnyH_take (i := 4) (oi := { dst := some 176, op := Go.Op.binOp Go.BinOp.geq 2 (Go.Operand.tmp 175) (Go.Operand.const (Go.Value.int Go.IntKind.i64 0)) 2, type := 4, pos := "header.go:178", after := #[{ on := 3, ground := Go.Ground.data }], guard := none }) (v := .bool false) rfl (by kernel_rfl) (by kernel_rfl) (by kernel_rfl) (fun _ _ _ h => h) (Or.inl ⟨by rfl, fun w9 hS9 => ?_⟩) hHeld ?_
          · obtain ⟨g0, g1, g2, _⟩ := hS9
            go_simp
          simp only [Act.put, List.setIfInBounds_toArray, List.set_cons_zero, List.set_cons_succ]
          refine wpAnyH_take (i := 5) (oi := { dst := some 177, op := Go.Op.move (Go.Operand.tmp 176), type := 4, pos := "header.go:178", after := #[{ on := 4, ground := Go.Ground.data }], guard := none }) (v := .bool false) rfl (by kernel_rfl) (by kernel_rfl) (by kernel_rfl) (fun _ _ _ h => h) (Or.inl ⟨by rfl, fun w9 hS9 => ?_⟩) hHeld ?_
          · obtain ⟨g0, g1, g2, _⟩ := hS9
            go_simp
          simp only [Act.put, List.setIfInBounds_toArray, List.set_cons_zero, List.set_cons_succ]
          refine wpAnyH_take (i := 6) (oi := { dst := some 178, op := Go.Op.fieldAddr 32 (Go.Operand.tmp 2) 9, type := 0, pos := "header.go:178", after := #[{ on := 5, ground := Go.Ground.guard }], guard := some (5, true) }) (v := undef) rfl (by kernel_rfl) (by kernel_rfl) (by kernel_rfl) (fun _ _ _ h => h) (Or.inr ⟨by rfl, rfl⟩) hHeld ?_
          simp only [Act.put, List.setIfInBounds_toArray, List.set_cons_zero, List.set_cons_succ]
          refine wpAnyH_take (i := 7) (oi := { dst := some 179, op := Go.Op.fieldAddr 29 (Go.Operand.tmp 178) 0, type := 0, pos := "header.go:178", after := #[{ on := 6, ground := Go.Ground.data }, { on := 5, ground := Go.Ground.guard }], guard := some (5, true) }) (v := undef) rfl (by kernel_rfl) (by kernel_rfl) (by kernel_rfl) (fun _ _ _ h => h) (Or.inr ⟨by rfl, rfl⟩) hHeld ?_
          simp only [Act.put, List.setIfInBounds_toArray, List.set_cons_zero, List.set_cons_succ]
          refine wpAnyH_take (i := 8) (oi := { dst := some 180, op := Go.Op.load 2 (Go.Operand.tmp 179), type := 2, pos := "header.go:178", after := #[{ on := 7, ground := Go.Ground.data }, { on := 5, ground := Go.Ground.guard }], guard := some (5, true) }) (v := undef) rfl (by kernel_rfl) (by kernel_rfl) (by kernel_rfl) (fun _ _ _ h => h) (Or.inr ⟨by rfl, rfl⟩) hHeld ?_
          simp only [Act.put, List.setIfInBounds_toArray, List.set_cons_zero, List.set_cons_succ]
          refine wpAnyH_take (i := 9) (oi := { dst := some 181, op := Go.Op.binOp Go.BinOp.lss 2 (Go.Operand.tmp 180) (Go.Operand.const (Go.Value.int Go.IntKind.i64 8589934592)) 2, type := 4, pos := "header.go:178", after := #[{ on := 8, ground := Go.Ground.data }, { on := 5, ground := Go.Ground.guard }], guard := some (5, true) }) (v := undef) rfl (by kernel_rfl) (by kernel_rfl) (by kernel_rfl) (fun _ _ _ h => h) (Or.inr ⟨by rfl, rfl⟩) hHeld ?_
          simp only [Act.put, List.setIfInBounds_toArray, List.set_cons_zero, List.set_cons_succ]
          refine wpAnyH_take (i := 10) (oi := { dst := some 182, op := Go.Op.pick (Go.Operand.tmp 177) (Go.Operand.tmp 181) (Go.Operand.const (Go.Value.bool false)), type := 4, pos := "header.go:178", after := #[{ on := 5, ground := Go.Ground.data }, { on := 9, ground := Go.Ground.data }], guard := none }) (v := .bool false) rfl (by kernel_rfl) (by kernel_rfl) (by kernel_rfl) (fun _ _ _ h => h) (Or.inl ⟨by rfl, fun w9 hS9 => ?_⟩) hHeld ?_
          · obtain ⟨g0, g1, g2, _⟩ := hS9
            go_simp
          simp only [Act.put, List.setIfInBounds_toArray, List.set_cons_zero, List.set_cons_succ]
          refine wpAnyH_take (i := 12) (oi := { dst := some 184, op := Go.Op.fieldAddr 32 (Go.Operand.tmp 2) 10, type := 0, pos := "header.go:178", after := #[], guard := none }) (v := .pointer (some ⟨H, 11, none⟩)) rfl (by kernel_rfl) (by kernel_rfl) (by kernel_rfl) (fun _ _ _ h => h) (Or.inl ⟨by rfl, fun w9 hS9 => ?_⟩) hHeld ?_
          · obtain ⟨g0, g1, g2, _⟩ := hS9
            go_simp
          simp only [Act.put, List.setIfInBounds_toArray, List.set_cons_zero, List.set_cons_succ]
          refine wpAnyH_take (i := 13) (oi := { dst := some 185, op := Go.Op.load 4 (Go.Operand.tmp 184), type := 4, pos := "header.go:178", after := #[{ on := 12, ground := Go.Ground.data }], guard := none }) (v := .bool false) rfl (by kernel_rfl) (by kernel_rfl) (by kernel_rfl) (fun _ _ _ h => h) (Or.inl ⟨by rfl, fun w9 hS9 => ?_⟩) hHeld ?_
          · obtain ⟨g0, g1, g2, _⟩ := hS9
            go_simp
          simp only [Act.put, List.setIfInBounds_toArray, List.set_cons_zero, List.set_cons_succ]
          refine wpAnyH_take (i := 14) (oi := { dst := some 186, op := Go.Op.unOp Go.UnOp.not 4 (Go.Operand.tmp 185), type := 4, pos := "header.go:178", after := #[{ on := 13, ground := Go.Ground.data }], guard := none }) (v := .bool true) rfl (by kernel_rfl) (by kernel_rfl) (by kernel_rfl) (fun _ _ _ h => h) (Or.inl ⟨by rfl, fun w9 hS9 => ?_⟩) hHeld ?_
          · obtain ⟨g0, g1, g2, _⟩ := hS9
            go_simp
          simp only [Act.put, List.setIfInBounds_toArray, List.set_cons_zero, List.set_cons_succ]
          refine wpAnyH_ready (rs := [11]) (by kernel_rfl) (by simp) ?_
          refine AllReadyH.cons (o := { dst := some 183, op := Go.Op.call { callee := Go.Callee.value (Go.Operand.func 21), args := #[Go.Operand.tmp 182], argTypes := #[4] }, type := 3, pos := "header.go:178", after := #[{ on := 10, ground := Go.Ground.data }, { on := 5, ground := Go.Ground.chain }], guard := none }) rfl (fun K9 hK9 => ?_) AllReadyH.nil
          go_simp
          refine (specWhen _ _).mono ?_
          rintro e w' ⟨rfl, rfl⟩
          refine hK9.out _ _ (hHeld) (fun hHeld1 => ?_)
          clear hK9 K9
          try simp only [Act.put, List.setIfInBounds_toArray, List.set_cons_zero, List.set_cons_succ]
          refine wpAnyH_take (i := 15) (oi := { dst := some 187, op := Go.Op.move (Go.Operand.tmp 186), type := 4, pos := "header.go:178", after := #[{ on := 14, ground := Go.Ground.data }, { on := 11, ground := Go.Ground.chain }], guard := none }) (v := .bool true) rfl (by kernel_rfl) (by kernel_rfl) (by kernel_rfl) (fun _ _ _ h => h) (Or.inl ⟨by rfl, fun w9 hS9 => ?_⟩) hHeld1 ?_
          · obtain ⟨g0, g1, g2, _⟩ := hS9
            go_simp
          simp only [Act.put, List.setIfInBounds_toArray, List.set_cons_zero, List.set_cons_succ]
          refine wpAnyH_take (i := 16) (oi := { dst := some 188, op := Go.Op.fieldAddr 32 (Go.Operand.tmp 2) 11, type := 0, pos := "header.go:178", after := #[{ on := 15, ground := Go.Ground.guard }], guard := some (15, true) }) (v := .pointer (some ⟨H, 12, none⟩)) rfl (by kernel_rfl) (by kernel_rfl) (by kernel_rfl) (fun _ _ _ h => h) (Or.inl ⟨by rfl, fun w9 hS9 => ?_⟩) hHeld1 ?_
          · obtain ⟨g0, g1, g2, _⟩ := hS9
            go_simp
          simp only [Act.put, List.setIfInBounds_toArray, List.set_cons_zero, List.set_cons_succ]
          refine wpAnyH_take (i := 17) (oi := { dst := some 189, op := Go.Op.load 4 (Go.Operand.tmp 188), type := 4, pos := "header.go:178", after := #[{ on := 16, ground := Go.Ground.data }, { on := 15, ground := Go.Ground.guard }], guard := some (15, true) }) (v := .bool xc) rfl (by kernel_rfl) (by kernel_rfl) (by kernel_rfl) (fun _ _ _ h => h) (Or.inl ⟨by rfl, fun w9 hS9 => ?_⟩) hHeld1 ?_
          · obtain ⟨g0, g1, g2, _⟩ := hS9
            go_simp
          simp only [Act.put, List.setIfInBounds_toArray, List.set_cons_zero, List.set_cons_succ]
          refine wpAnyH_take (i := 18) (oi := { dst := some 190, op := Go.Op.unOp Go.UnOp.not 4 (Go.Operand.tmp 189), type := 4, pos := "header.go:178", after := #[{ on := 17, ground := Go.Ground.data }, { on := 15, ground := Go.Ground.guard }], guard := some (15, true) }) (v := .bool (!xc)) rfl (by kernel_rfl) (by kernel_rfl) (by kernel_rfl) (fun _ _ _ h => h) (Or.inl ⟨by rfl, fun w9 hS9 => ?_⟩) hHeld1 ?_
          · obtain ⟨g0, g1, g2, _⟩ := hS9
            go_simp
          simp only [Act.put, List.setIfInBounds_toArray, List.set_cons_zero, List.set_cons_succ]
          refine wpAnyH_take (i := 19) (oi := { dst := some 191, op := Go.Op.pick (Go.Operand.tmp 187) (Go.Operand.tmp 190) (Go.Operand.const (Go.Value.bool false)), type := 4, pos := "header.go:178", after := #[{ on := 15, ground := Go.Ground.data }, { on := 18, ground := Go.Ground.data }], guard := none }) (v := .bool (!xc)) rfl (by kernel_rfl) (by kernel_rfl) (by kernel_rfl) (fun _ _ _ h => h) (Or.inl ⟨by rfl, fun w9 hS9 => ?_⟩) hHeld1 ?_
          · obtain ⟨g0, g1, g2, _⟩ := hS9
            go_simp
          simp only [Act.put, List.setIfInBounds_toArray, List.set_cons_zero, List.set_cons_succ]
          refine wpAnyH_ready (rs := [20]) (by kernel_rfl) (by simp) ?_
          refine AllReadyH.cons (o := { dst := some 192, op := Go.Op.call { callee := Go.Callee.value (Go.Operand.func 21), args := #[Go.Operand.tmp 191], argTypes := #[4] }, type := 3, pos := "header.go:178", after := #[{ on := 19, ground := Go.Ground.data }, { on := 15, ground := Go.Ground.chain }], guard := none }) rfl (fun K9 hK9 => ?_) AllReadyH.nil
          go_simp
          refine (specWhen _ _).mono ?_
          rintro e w' ⟨rfl, rfl⟩
          refine hK9.out _ _ (hHeld1) (fun hHeld2 => ?_)
          clear hK9 K9
          try simp only [Act.put, List.setIfInBounds_toArray, List.set_cons_zero, List.set_cons_succ]
          refine wpAnyH_ready (rs := [21]) (by kernel_rfl) (by simp) ?_
          refine AllReadyH.cons (o := { dst := some 193, op := Go.Op.buildSlice 27 3 #[(0, Go.Operand.tmp 172), (1, Go.Operand.tmp 183), (2, Go.Operand.tmp 192)], type := 27, pos := "header.go:178", after := #[{ on := 0, ground := Go.Ground.data }, { on := 11, ground := Go.Ground.data }, { on := 20, ground := Go.Ground.data }], guard := none }) rfl (fun K9 hK9 => ?_) AllReadyH.nil
          go_simp
          refine hK9.out _ _ (KA.out _ _ hHeld2) (fun hHeld3 => ?_)
          clear hK9 K9
          try simp only [Act.put, List.setIfInBounds_toArray, List.set_cons_zero, List.set_cons_succ]
          refine wpAnyH_ready (rs := [22]) (by kernel_rfl) (by simp) ?_
          refine AllReadyH.cons (o := { dst := some 194, op := Go.Op.call { callee := Go.Callee.value (Go.Operand.func 23), args := #[Go.Operand.tmp 193], argTypes := #[27] }, type := 3, pos := "header.go:178", after := #[{ on := 21, ground := Go.Ground.data }, { on := 20, ground := Go.Ground.chain }], guard := none }) rfl (fun K9 hK9 => ?_) AllReadyH.nil
          go_simp
          refine (all3d_1 _ _ _ _ _).mono ?_
          rintro e w' ⟨rfl, rfl⟩
          refine hK9.out _ _ (hHeld3) (fun hHeld4 => ?_)
          clear hK9 K9
          try simp only [Act.put, List.setIfInBounds_toArray, List.set_cons_zero, List.set_cons_succ]
          refine wpAnyH_take (i := 23) (oi := { dst := some 5, op := Go.Op.assign (Go.Operand.tmp 194), type := 3, pos := "header.go:178", after := #[{ on := 22, ground := Go.Ground.data }, { on := 22, ground := Go.Ground.chain }, { on := 0, ground := Go.Ground.phase }, { on := 1, ground := Go.Ground.phase }, { on := 2, ground := Go.Ground.phase }, { on := 3, ground := Go.Ground.phase }, { on := 4, ground := Go.Ground.phase }, { on := 5, ground := Go.Ground.phase }, { on := 6, ground := Go.Ground.phase }, { on := 7, ground := Go.Ground.phase }, { on := 8, ground := Go.Ground.phase }, { on := 9, ground := Go.Ground.phase }, { on := 10, ground := Go.Ground.phase }, { on := 11, ground := Go.Ground.phase }, { on := 12, ground := Go.Ground.phase }, { on := 13, ground := Go.Ground.phase }, { on := 14, ground := Go.Ground.phase }, { on := 15, ground := Go.Ground.phase }, { on := 16, ground := Go.Ground.phase }, { on := 17, ground := Go.Ground.phase }, { on := 18, ground := Go.Ground.phase }, { on := 19, ground := Go.Ground.phase }, { on := 20, ground := Go.Ground.phase }, { on := 21, ground := Go.Ground.phase }, { on := 22, ground := Go.Ground.phase }], guard := none }) (v := .int .i64 (allV [y6, whenV false, whenV (!xc)])) rfl (by kernel_rfl) (by kernel_rfl) (by kernel_rfl) (fun _ _ _ h => h) (Or.inl ⟨by rfl, fun w9 hS9 => ?_⟩) hHeld4 ?_
          · obtain ⟨g0, g1, g2, _⟩ := hS9
            go_simp
          simp only [Act.put, List.setIfInBounds_toArray, List.set_cons_zero, List.set_cons_succ]
          refine wpAnyH_done (by kernel_rfl) ?_ _
          go_wp2_with fail
          go_meet
          case rel => exact ⟨_, rfl, Lib.hid (by have s11 : ¬ (0 : Int) ≤ M := (by omega); simp [s11]), Lib.hid (KX.out _ hHeld4)⟩
    case rest => as_aux_lemma =>
    first | (rename_i oa ob oc od oe og oh oi oj ok ol om oo op oq os ot ou ov ow ox oy oz oA oB oC oD oE oF oG oH oI oJ oK oL oM oN oO oP oQ oR oS oT oU oV oW oX oY oZ o0 o1 o2 o3 o4 o5 o6 o7 o8 o9 pa pb pc pd pe pf pg ph pi pj pk pl pm pn po pp pq pr ps pt pu pv pw px py pz pA pB pC pD pE pF pG pH pI pJ pK pL pM pN pO pP pQ pR pS pT pU pV pW pX pY pZ p0 p1 p2 p3 p4 p5 p6 p7 p8 p9 qa qb qc qd qe qf qg qh qi qj qk ql qm qn qo qp qq qr qs qt qu qv qw qx qy qz qA qB qC qD qE qF qG qH qI qJ qK qL qM qN qO qP qQ qR qS qT qU qV qW qX qY qZ q0 q1 q2 q3 q4 q5 q6 q7 q8 q9 za zb zc zd ze zf zg zh zi zj zk zl zm zn zo zp zq zr zs zt zu zv zw zx zy zz zA zB zC zD zE zF zG zH zI zJ zK zL zM zN zO zP zQ _ _; clear oa ob oc od oe og oh oi oj ok ol om oo op oq os ot ou ov ow ox oy oz oA oB oC oD oE oF oG oH oI oJ oK oL oM oN oO oP oQ oR oS oT oU oV oW oX oY oZ o0 o1 o2 o3 o4 o5 o6 o7 o8 o9 pa pb pc pd pe pf pg ph pi pj pk pl pm pn po pp pq pr ps pt pu pv pw px py pz pA pB pC pD pE pF pG pH pI pJ pK pL pM pN pO pP pQ pR pS pT pU pV pW pX pY pZ p0 p1 p2 p3 p4 p5 p6 p7 p8 p9 qa qb qc qd qe qf qg qh qi qj qk ql qm qn qo qp qq qr qs qt qu qv qw qx qy qz qA qB qC qD qE qF qG qH qI qJ qK qL qM qN qO qP qQ qR qS qT qU qV qW qX qY qZ q0 q1 q2 q3 q4 q5 q6 q7 q8 q9 za zb zc zd ze zf zg zh zi zj zk zl zm zn zo zp zq zr zs zt zu zv zw zx zy zz zA zB zC zD zE zF zG zH zI zJ zK zL zM zN zO zP zQ)
    obtain ⟨y6b, rfl, HY6B, HXN⟩ := hcut
    clear KS KA KX
    obtain ⟨w8b, hwn⟩ : ∃ w5, w5 = wc := ⟨_, rfl⟩
    subst hwn
    have HB8b : Hid (Blk w8b H 32 h.prom.cells) := Lib.hid (HB8.out.below HXN.out HB8.out.lt)
    have HW8b : Hid (Below w.heap.size w w8b) := Lib.hid (HW8.out.trans (HXN.out.mono HW8.out.size))
    clear HB8 HW8 HXN
    obtain ⟨ba, hba⟩ : ∃ b, h.ha = b := ⟨_, rfl⟩
    have HBA := Lib.hid hba
    have c11 : w8b.cell? ⟨H, 11, none⟩ = some (.bool ba) := by rw [← hba]; exact HB8b.out.cell 11
    clear hba
    go_upto_if 196 with fail
    go_cut [5] (fun v wx => ∃ y : Int, v = .int .i64 y ∧ Hid (y = if ba = true then allV [y6b, momentV h.as_ h.an 1] else y6b) ∧ Hid (Below w8b.heap.size w8b wx))
    case first => as_aux_lemma =>
      cases ba with
      | false =>
        go_wp2_with fail
        go_meet
        case rel => exact ⟨_, rfl, Lib.hid (by rw [if_neg (by decide)]), Lib.hid (Below.refl _ _)⟩
      | true =>
        have t1 : w8b.cell? ⟨H, 13, none⟩ = some (.int .i64 h.as_) := HB8b.out.cell 13
        have t2 : w8b.cell? ⟨H, 14, none⟩ = some (.int .i64 h.an) := HB8b.out.cell 14
        go_wp2_with fail
        refine (specMoment h.as_ h.an 1 w8b).mono ?_
        rintro e wt ⟨rfl, hbt⟩
        have HBT := Lib.hid hbt
        clear hbt
        go_simp
        go_wp2_with fail
        refine (all2 _ _ _ _).mono ?_
        rintro e w' ⟨rfl, hw9⟩
        subst hw9
        go_simp
        go_wp2_with fail
        go_meet
        case rel => exact ⟨_, rfl, Lib.hid (by rw [if_pos rfl]), Lib.hid (HBT.out.alloc HBT.out.size _)⟩
    case rest => as_aux_lemma =>
    first | (rename_i oa ob oc od oe og oh oi oj ok ol om oo op oq os ot ou ov ow ox oy oz oA oB oC oD oE oF oG oH oI oJ oK oL oM oN oO oP oQ oR oS oT oU oV oW oX oY oZ o0 o1 o2 o3 o4 o5 o6 o7 o8 o9 pa pb pc pd pe pf pg ph pi pj pk pl pm pn po pp pq pr ps pt pu pv pw px py pz pA pB pC pD pE pF pG pH pI pJ pK pL pM pN pO pP pQ pR pS pT pU pV pW pX pY pZ p0 p1 p2 p3 p4 p5 p6 p7 p8 p9 qa qb qc qd qe qf qg qh qi qj qk ql qm qn qo qp qq qr qs qt qu qv qw qx qy qz qA qB qC qD qE qF qG qH qI qJ qK qL qM qN qO qP qQ qR qS qT qU qV qW qX qY qZ q0 q1 q2 q3 q4 q5 q6 q7 q8 q9 za zb zc zd ze zf zg zh zi zj zk zl zm zn zo zp zq zr zs zt zu zv zw zx zy zz zA zB zC zD zE zF zG zH zI zJ zK zL zM zN zO zP zQ _ _; clear oa ob oc od oe og oh oi oj ok ol om oo op oq os ot ou ov ow ox oy oz oA oB oC oD oE oF oG oH oI oJ oK oL oM oN oO oP oQ oR oS oT oU oV oW oX oY oZ o0 o1 o2 o3 o4 o5 o6 o7 o8 o9 pa pb pc pd pe pf pg ph pi pj pk pl pm pn po pp pq pr ps pt pu pv pw px py pz pA pB pC pD pE pF pG pH pI pJ pK pL pM pN pO pP pQ pR pS pT pU pV pW pX pY pZ p0 p1 p2 p3 p4 p5 p6 p7 p8 p9 qa qb qc qd qe qf qg qh qi qj qk ql qm qn qo qp qq qr qs qt qu qv qw qx qy qz qA qB qC qD qE qF qG qH qI qJ qK qL qM qN qO qP qQ qR qS qT qU qV qW qX qY qZ q0 q1 q2 q3 q4 q5 q6 q7 q8 q9 za zb zc zd ze zf zg zh zi zj zk zl zm zn zo zp zq zr zs zt zu zv zw zx zy zz zA zB zC zD zE zF zG zH zI zJ zK zL zM zN zO zP zQ)
    obtain ⟨y7, rfl, HY7, HXN⟩ := hcut
    clear c11
    obtain ⟨w9, hwn⟩ : ∃ w5, w5 = wc := ⟨_, rfl⟩
    subst hwn
    have HB9 : Hid (Blk w9 H 32 h.prom.cells) := Lib.hid (HB8b.out.below HXN.out HB8b.out.lt)
    have HW9 : Hid (Below w.heap.size w w9) := Lib.hid (HW8b.out.trans (HXN.out.mono HW8b.out.size))
    clear HB8b HW8b HXN
    obtain ⟨bc, hbc⟩ : ∃ b, h.hc = b := ⟨_, rfl⟩
    have HBC := Lib.hid hbc
    have c12 : w9.cell? ⟨H, 12, none⟩ = some (.bool bc) := by rw [← hbc]; exact HB9.out.cell 12
    clear hbc
    go_upto_if 205 with fail
    go_cut [5] (fun v wx => ∃ y : Int, v = .int .i64 y ∧ Hid (y = if bc = true then allV [y7, momentV h.cs h.cn 1] else y7) ∧ Hid (Below w9.heap.size w9 wx))
    case first => as_aux_lemma =>
      cases bc with
      | false =>
        go_wp2_with fail
        go_meet
        case rel => exact ⟨_, rfl, Lib.hid (by rw [if_neg (by decide)]), Lib.hid (Below.refl _ _)⟩
      | true =>
        have t1 : w9.cell? ⟨H, 15, none⟩ = some (.int .i64 h.cs) := HB9.out.cell 15
        have t2 : w9.cell? ⟨H, 16, none⟩ = some (.int .i64 h.cn) := HB9.out.cell 16
        go_wp2_with fail
        refine (specMoment h.cs h.cn 1 w9).mono ?_
        rintro e wt ⟨rfl, hbt⟩
        have HBT := Lib.hid hbt
        clear hbt
        go_simp
        go_wp2_with fail
        refine (all2 _ _ _ _).mono ?_
        rintro e w' ⟨rfl, hw9⟩
        subst hw9
        go_simp
        go_wp2_with fail
        go_meet
        case rel => exact ⟨_, rfl, Lib.hid (by rw [if_pos rfl]), Lib.hid (HBT.out.alloc HBT.out.size _)⟩
    case rest => as_aux_lemma =>
    first | (rename_i oa ob oc od oe og oh oi oj ok ol om oo op oq os ot ou ov ow ox oy oz oA oB oC oD oE oF oG oH oI oJ oK oL oM oN oO oP oQ oR oS oT oU oV oW oX oY oZ o0 o1 o2 o3 o4 o5 o6 o7 o8 o9 pa pb pc pd pe pf pg ph pi pj pk pl pm pn po pp pq pr ps pt pu pv pw px py pz pA pB pC pD pE pF pG pH pI pJ pK pL pM pN pO pP pQ pR pS pT pU pV pW pX pY pZ p0 p1 p2 p3 p4 p5 p6 p7 p8 p9 qa qb qc qd qe qf qg qh qi qj qk ql qm qn qo qp qq qr qs qt qu qv qw qx qy qz qA qB qC qD qE qF qG qH qI qJ qK qL qM qN qO qP qQ qR qS qT qU qV qW qX qY qZ q0 q1 q2 q3 q4 q5 q6 q7 q8 q9 za zb zc zd ze zf zg zh zi zj zk zl zm zn zo zp zq zr zs zt zu zv zw zx zy zz zA zB zC zD zE zF zG zH zI zJ zK zL zM zN zO zP zQ _ _; clear oa ob oc od oe og oh oi oj ok ol om oo op oq os ot ou ov ow ox oy oz oA oB oC oD oE oF oG oH oI oJ oK oL oM oN oO oP oQ oR oS oT oU oV oW oX oY oZ o0 o1 o2 o3 o4 o5 o6 o7 o8 o9 pa pb pc pd pe pf pg ph pi pj pk pl pm pn po pp pq pr ps pt pu pv pw px py pz pA pB pC pD pE pF pG pH pI pJ pK pL pM pN pO pP pQ pR pS pT pU pV pW pX pY pZ p0 p1 p2 p3 p4 p5 p6 p7 p8 p9 qa qb qc qd qe qf qg qh qi qj qk ql qm qn qo qp qq qr qs qt qu qv qw qx qy qz qA qB qC qD qE qF qG qH qI qJ qK qL qM qN qO qP qQ qR qS qT qU qV qW qX qY qZ q0 q1 q2 q3 q4 q5 q6 q7 q8 q9 za zb zc zd ze zf zg zh zi zj zk zl zm zn zo zp zq zr zs zt zu zv zw zx zy zz zA zB zC zD zE zF zG zH zI zJ zK zL zM zN zO zP zQ)
    obtain ⟨y8, rfl, HY8, HXN⟩ := hcut
    clear c12
    obtain ⟨w10, hwn⟩ : ∃ w5, w5 = wc := ⟨_, rfl⟩
    subst hwn
    have HB10 : Hid (Blk w10 H 32 h.prom.cells) := Lib.hid (HB9.out.below HXN.out HB9.out.lt)
    have HW10 : Hid (Below w.heap.size w w10) := Lib.hid (HW9.out.trans (HXN.out.mono HW9.out.size))
    clear HB9 HW9 HXN
    obtain ⟨rA, hrA⟩ : ∃ x, h.rA = x := ⟨_, rfl⟩
    obtain ⟨rn, hrn⟩ : ∃ x, h.rn = x := ⟨_, rfl⟩
    have HRA := Lib.hid hrA
    have HRN := Lib.hid hrn
    have c19 : w10.cell? ⟨H, 19, none⟩ = some (.slice rA rn h.rc) := by rw [← hrA, ← hrn]; exact HB10.out.cell 19
    have hbig : rn ≤ 2147483647 := by rw [← hrn]; exact HR.out.big
    clear hrA hrn
    go_upto_region 23 with fail
    go_cut [220] (fun c wx => ∃ b : Bool, c = .bool b ∧ Hid (b = true ↔ (0 < rn ∧ (1 : Int) ≠ 2)) ∧ Hid (w10 = wx))
    case first => as_aux_lemma =>
      by_cases s0 : 0 < rn
      · have s1 : (0 : Int) < (rn : Int) := by omega
        have HS0 := Lib.hid s0
        go_wp2_with fail
        go_meet
        case rel => exact ⟨true, rfl, Lib.hid ⟨fun _ => ⟨HS0.out, by decide⟩, fun _ => rfl⟩, Lib.hid rfl⟩
      · have s1 : ¬ (0 : Int) < (rn : Int) := by omega
        have HS0 := Lib.hid s0
        go_wp2_with fail
        go_meet
        case rel => exact ⟨false, rfl, Lib.hid ⟨(fun h => by cases h), (fun h => absurd h.1 HS0.out)⟩, Lib.hid rfl⟩
    case rest => as_aux_lemma =>
    first | (rename_i oa ob oc od oe og oh oi oj ok ol om oo op oq os ot ou ov ow ox oy oz oA oB oC oD oE oF oG oH oI oJ oK oL oM oN oO oP oQ oR oS oT oU oV oW oX oY oZ o0 o1 o2 o3 o4 o5 o6 o7 o8 o9 pa pb pc pd pe pf pg ph pi pj pk pl pm pn po pp pq pr ps pt pu pv pw px py pz pA pB pC pD pE pF pG pH pI pJ pK pL pM pN pO pP pQ pR pS pT pU pV pW pX pY pZ p0 p1 p2 p3 p4 p5 p6 p7 p8 p9 qa qb qc qd qe qf qg qh qi qj qk ql qm qn qo qp qq qr qs qt qu qv qw qx qy qz qA qB qC qD qE qF qG qH qI qJ qK qL qM qN qO qP qQ qR qS qT qU qV qW qX qY qZ q0 q1 q2 q3 q4 q5 q6 q7 q8 q9 za zb zc zd ze zf zg zh zi zj zk zl zm zn zo zp zq zr zs zt zu zv zw zx zy zz zA zB zC zD zE zF zG zH zI zJ zK zL zM zN zO zP zQ _ _ _ _; clear oa ob oc od oe og oh oi oj ok ol om oo op oq os ot ou ov ow ox oy oz oA oB oC oD oE oF oG oH oI oJ oK oL oM oN oO oP oQ oR oS oT oU oV oW oX oY oZ o0 o1 o2 o3 o4 o5 o6 o7 o8 o9 pa pb pc pd pe pf pg ph pi pj pk pl pm pn po pp pq pr ps pt pu pv pw px py pz pA pB pC pD pE pF pG pH pI pJ pK pL pM pN pO pP pQ pR pS pT pU pV pW pX pY pZ p0 p1 p2 p3 p4 p5 p6 p7 p8 p9 qa qb qc qd qe qf qg qh qi qj qk ql qm qn qo qp qq qr qs qt qu qv qw qx qy qz qA qB qC qD qE qF qG qH qI qJ qK qL qM qN qO qP qQ qR qS qT qU qV qW qX qY qZ q0 q1 q2 q3 q4 q5 q6 q7 q8 q9 za zb zc zd ze zf zg zh zi zj zk zl zm zn zo zp zq zr zs zt zu zv zw zx zy zz zA zB zC zD zE zF zG zH zI zJ zK zL zM zN zO zP zQ)
    obtain ⟨b9, rfl, HB9X, hw⟩ := hcut
    have hw' := hw.out
    clear hw
    subst hw'
    go_upto_if 220 with fail
    go_cut [5] (fun v wx => ∃ y : Int, v = .int .i64 y ∧ Hid (y = if b9 = true then allV [y8, 2] else y8) ∧ Hid (Below w10.heap.size w10 wx))
    case first => as_aux_lemma =>
      cases b9 with
      | true =>
        go_wp2_with fail
        refine (all2 _ _ _ _).mono ?_
        rintro e w' ⟨rfl, hw9⟩
        subst hw9
        go_simp
        go_wp2_with fail
        go_meet
        case rel => exact ⟨_, rfl, Lib.hid (by rw [if_pos rfl]), Lib.hid ((Below.refl _ _).alloc (Nat.le_refl _) _)⟩
      | false =>
        go_wp2_with fail
        go_meet
        case rel => exact ⟨_, rfl, Lib.hid (by rw [if_neg (by decide)]), Lib.hid (Below.refl _ _)⟩
    case rest => as_aux_lemma =>
    first | (rename_i oa ob oc od oe og oh oi oj ok ol om oo op oq os ot ou ov ow ox oy oz oA oB oC oD oE oF oG oH oI oJ oK oL oM oN oO oP oQ oR oS oT oU oV oW oX oY oZ o0 o1 o2 o3 o4 o5 o6 o7 o8 o9 pa pb pc pd pe pf pg ph pi pj pk pl pm pn po pp pq pr ps pt pu pv pw px py pz pA pB pC pD pE pF pG pH pI pJ pK pL pM pN pO pP pQ pR pS pT pU pV pW pX pY pZ p0 p1 p2 p3 p4 p5 p6 p7 p8 p9 qa qb qc qd qe qf qg qh qi qj qk ql qm qn qo qp qq qr qs qt qu qv qw qx qy qz qA qB qC qD qE qF qG qH qI qJ qK qL qM qN qO qP qQ qR qS qT qU qV qW qX qY qZ q0 q1 q2 q3 q4 q5 q6 q7 q8 q9 za zb zc zd ze zf zg zh zi zj zk zl zm zn zo zp zq zr zs zt zu zv zw zx zy zz zA zB zC zD zE zF zG zH zI zJ zK zL zM zN zO zP; clear oa ob oc od oe og oh oi oj ok ol om oo op oq os ot ou ov ow ox oy oz oA oB oC oD oE oF oG oH oI oJ oK oL oM oN oO oP oQ oR oS oT oU oV oW oX oY oZ o0 o1 o2 o3 o4 o5 o6 o7 o8 o9 pa pb pc pd pe pf pg ph pi pj pk pl pm pn po pp pq pr ps pt pu pv pw px py pz pA pB pC pD pE pF pG pH pI pJ pK pL pM pN pO pP pQ pR pS pT pU pV pW pX pY pZ p0 p1 p2 p3 p4 p5 p6 p7 p8 p9 qa qb qc qd qe qf qg qh qi qj qk ql qm qn qo qp qq qr qs qt qu qv qw qx qy qz qA qB qC qD qE qF qG qH qI qJ qK qL qM qN qO qP qQ qR qS qT qU qV qW qX qY qZ q0 q1 q2 q3 q4 q5 q6 q7 q8 q9 za zb zc zd ze zf zg zh zi zj zk zl zm zn zo zp zq zr zs zt zu zv zw zx zy zz zA zB zC zD zE zF zG zH zI zJ zK zL zM zN zO zP)
    obtain ⟨y9, rfl, HY9, HXN⟩ := hcut
    clear c19
    obtain ⟨w11, hwn⟩ : ∃ w5, w5 = wc := ⟨_, rfl⟩
    subst hwn
    have HB11 : Hid (Blk w11 H 32 h.prom.cells) := Lib.hid (HB10.out.below HXN.out HB10.out.lt)
    have HW11 : Hid (Below w.heap.size w w11) := Lib.hid (HW10.out.trans (HXN.out.mono HW10.out.size))
    clear HB10 HW10 HXN
    have c19 : w11.cell? ⟨H, 19, none⟩ = some (.slice rA rn h.rc) := by rw [← HRA.out, ← HRN.out]; exact HB11.out.cell 19
    go_wp2
    go_loopw [5, 227] (fun v i wr => ∃ (k : Nat) (y : Int), k ≤ rn ∧ i = .int .i64 k ∧ v = .int .i64 y ∧ Hid (∃ xs : List Int, xs.length = k ∧ (∀ j, j < k → K.RR (rk rs j) (rv rs j) (nv xs j)) ∧ y = xs.foldl (fun v x => allV [v, x]) y9) ∧ Hid (Below w11.heap.size w11 wr)) (fun _ i _ => rn - (intOf i).toNat)
    case atStart => exact ⟨0, y9, by omega, rfl, rfl, Lib.hid ⟨[], rfl, fun j hj => by omega, rfl⟩, Lib.hid (Below.refl _ _)⟩
    case round =>
      obtain ⟨k, y, hk, rfl, rfl, HX, HW⟩ := hrel
      by_cases hlt : k < rn
      · obtain ⟨b, off, hA, hbB, q1, q2⟩ := ((HR.out.below HW11.out (Nat.le_refl _)).below HW.out HW11.out.size).row.rec_ (k := k) (by rw [HR.out.len, HRN.out]; exact hlt)
        rw [HRA.out] at hA
        subst hA
        obtain ⟨z1, z2⟩ := HR.out.small k
        obtain ⟨X, hX⟩ : ∃ X, rk rs k = X := ⟨_, rfl⟩
        obtain ⟨Y, hY⟩ : ∃ Y, rv rs k = Y := ⟨_, rfl⟩
        rw [hX] at q1 z1
        rw [hY] at q2 z2
        have HXX := Lib.hid hX
        have HYY := Lib.hid hY
        have HWA : Hid (Below w11.heap.size w11 (wr.alloc (.cells #[.string X, .string Y] 60))) := Lib.hid (HW.out.alloc HW.out.size _)
        have hk0 : (0 : Int) ≤ (k : Int) := by omega
        have hk1 : (k : Int) < (rn : Int) := by omega
        clear hX hY
        go_wp2_with fail
        refine (K.rec_ (HLV.out (by rw [HRN.out]; omega)) X Y _ z1 z2).mono ?_
        rintro e wq ⟨x, rfl, hx, hbq⟩
        have HRX := Lib.hid hx
        have HWQ : Hid (Below w11.heap.size w11 wq) := Lib.hid (HWA.out.trans (hbq.mono HWA.out.size))
        have HWQ2 : ∀ T, Hid (Below w11.heap.size w11 (wq.alloc (.cells #[.int .i64 y, .int .i64 x] T))) := fun T => Lib.hid (HWQ.out.alloc HWQ.out.size _)
        have HXN : Hid (∃ xs : List Int, xs.length = k + 1 ∧ (∀ j, j < k + 1 → K.RR (rk rs j) (rv rs j) (nv xs j)) ∧ allV [y, x] = xs.foldl (fun v x => allV [v, x]) y9) := Lib.hid (by
          obtain ⟨xs, h1, h2, h3⟩ := HX.out
          refine ⟨xs ++ [x], by rw [List.length_append, h1]; rfl, fun j hj => ?_, by rw [List.foldl_append, ← h3]; rfl⟩
          by_cases hjk : j < k
          · have e1 : nv (xs ++ [x]) j = nv xs j := by simp [nv, List.getD, List.getElem?_append_left (show j < xs.length by omega)]
            rw [e1]
            exact h2 j hjk
          · obtain rfl : j = k := by omega
            have e1 : nv (xs ++ [x]) j = x := by simp [nv, List.getD, ← h1]
            rw [e1, HXX.out, HYY.out]
            exact HRX.out)
        clear hx hbq
        go_simp
        go_wp2_with fail
        refine (all2 _ _ _ _).mono ?_
        rintro e w' ⟨rfl, hw9⟩
        subst hw9
        go_simp
        go_wp2_with fail
        go_roundw
        case rel => exact ⟨k + 1, _, by omega, by go_num, rfl, HXN, (HWQ2 _)⟩
        case measure => simp [intOf]; omega
      · obtain rfl : k = rn := by omega
        have HF : Hid (CanR K h rs y) := Lib.hid (by
          obtain ⟨tl, ou, og, a1, a2, a3, a4⟩ := HY3.out
          obtain ⟨xs, x1, x2, x3⟩ := HX.out
          have hlen := HR.out.len
          rw [HRN.out] at hlen
          have hv0 : y2 = 0 ∨ (y2 = 1 ∧ TypeOk h.prom ∧ DevOk h.prom) := by
            rcases HY2.out with h0 | ⟨h1, h2⟩
            · exact .inl h0
            · rcases HY1.out with h3 | ⟨h3, h4⟩
              · exact .inl (h1.trans h3)
              · refine .inr ⟨h1.trans h3, ?_, ?_⟩
                · obtain ⟨c1, c2, c3, c4, c5⟩ := HTY.out h4
                  show 48 ≤ h.prom.ty ∧ h.prom.ty ≤ 55 ∧ h.name.size ≠ 0 ∧ (slB h.name = true → h.prom.ty = 53) ∧ (h.link.size ≠ 0 → h.prom.ty = 49 ∨ h.prom.ty = 50)
                  rw [HT.out, HN.out, HL.out]
                  exact ⟨c1, c2, c3, c4, c5⟩
                · have h5 := HDV.out h2
                  show h.prom.ty = 51 ∨ h.prom.ty = 52 ∨ (h.maj = 0 ∧ h.min = 0)
                  rw [HT.out, HMJ.out, HMI.out]
                  exact h5
          refine ⟨HNT.out, y2, tn0, tn1, tl, ou, og, y3, y4, y5, y6, y6b, y7, y8, y9, hv0, by rw [HN.out]; exact HTN0.out, HTN1.out.elim (fun ⟨h1, b, h2, h3⟩ => .inl ⟨rfl, HBN.out.1 h1, b, (by rw [HN.out]; exact h2), h3⟩) (fun ⟨h1, h2⟩ => .inr ⟨(fun h => by have := HBN.out.2 h.2; rw [h1] at this; cases this), h2⟩), by rw [HL.out]; exact a1, by rw [HU.out]; exact a2, by rw [HG.out]; exact a3, a4, HY4.out, by rw [HSZ.out, HT.out, HHV.out]; exact HY5.out, by rw [HSZ.out]; exact HY6.out, by rw [if_pos rfl, HM.out, HXA.out, HXC.out]; exact HY6B.out, by rw [HBA.out]; exact HY7.out, by rw [HBC.out]; exact HY8.out, ?_, xs, by rw [x1, hlen], fun j hj => x2 j (by rw [← hlen]; exact hj), x3⟩
          have h9 := HY9.out
          rw [HRN.out]
          by_cases hb9 : b9 = true
          · rw [if_pos hb9] at h9
            rw [if_pos (HB9X.out.1 hb9)]
            exact h9
          · rw [if_neg hb9] at h9
            rw [if_neg (fun h => hb9 (HB9X.out.2 h))]
            exact h9)
        have HWF : Hid (Below w.heap.size w wr) := Lib.hid (HW11.out.trans (HW.out.mono HW11.out.size))
        go_wp2
        go_ret
        exact ⟨y, rfl, .inr HF.out, HWF.out⟩
end Go.Proofs.YtepeehjajhehfaaGreatDoor
