/- The law FnMap10IsTold: its own walk. -/
import Derived.Test.YtlchagphjmfooaaDoorM10W
namespace Go.Proofs.YtlchagphjmfooaaDoor
open Go.RowKit Go.PlainAid
set_option linter.unusedVariables false

theorem bys_set1 (bs : List UInt8) (p : Nat) (v : UInt8) : (bys bs).set p (.int .u8 (v.toNat : Int)) = bys (bs.set p v) := by simp [bys, List.map_set]
/-- A byte of an own row: it can be stored. -/
theorem own_store {w : World} {base n c : Nat} {A : Option Addr} {D : List UInt8} (h : w.ownsRow base 5 1 (.slice A n c) n (bys D)) {k : Nat} (hk : k < n) :
    ∃ g, A = some ⟨g, 0, none⟩ ∧ base ≤ g ∧ g < w.heap.size ∧ (∃ v, w.cell? ⟨g, k, none⟩ = some v) ∧ w.frozen? ⟨g, k, none⟩ = false ∧ ∀ v : UInt8, (w.setCell ⟨g, k, none⟩ (.int .u8 (v.toNat : Int))).ownsRow base 5 1 (.slice A n c) n (bys (D.set k v)) := by
  rcases h.2 with ⟨_, rfl⟩ | ⟨g, cap, cur, hv, hb, hg, hnc, hcm, hcs, htk⟩
  · omega
  · injection hv with h1 h2 h3
    subst h1 h3
    have hl : g < w.heap.size := Lib.lt_of_heap hg
    have hB : Blk w g 5 cur.toList := by unfold Blk; simpa using hg
    refine ⟨g, rfl, hb, hl, ⟨cur.toList[k]'(by simp; omega), by rw [hB.cell]; exact List.getElem?_eq_getElem (by simp; omega)⟩, hB.frozen k, fun v => ?_⟩
    refine ⟨by rw [length_bys, List.length_set, ← length_bys]; exact h.1, .inr ⟨g, c, (cur.toList.set k (.int .u8 (v.toNat : Int))).toArray, rfl, hb, hB.set_ k _, hnc, hcm, by simpa using hcs, ?_⟩⟩
    rw [← bys_set1, ← htk]
    simp [List.take_set]
set_option maxRecDepth 20000 in
set_option maxHeartbeats 12800000 in
theorem fnMap10IsTold_walk (A : Option Addr) (n c B : Nat) (ns : List Int) (x ch : Int) (w : World) (hn : ns.length = n) (hr : RC w B A (nums ns)) (hB : B ≤ w.heap.size) (hsm : Small ns) (hx : -9223372036854775808 ≤ x) (hx' : x ≤ 9223372036854775807) (hc0 : 0 ≤ ch) (hc1 : ch ≤ 255) (hE : Errs5 w) :
    Calls Tryd.prog 11 #[.slice A n c, .int .i64 x, .int .u8 ch] w fun e w' => e = .returned (.bool true) ∧ Below w.heap.size w w' := by
  by_cases hbig : 2147483647 < n
  · clear hE
    go_enter Tryd.func11, Tryd.ntmps11
    go_wp2
    go_ret
    exact ⟨rfl, Below.refl _ _⟩
  have HG := Lib.hid (pieces_any A n c B ns w hn hr hB (by omega) hsm)
  have HE := Lib.hid hE
  clear hn hr hsm hE
  go_enter Tryd.func11, Tryd.ntmps11
  go_wp2_with fail
  refine HG.out.mono ?_
  rintro e w1 ⟨ps, sz, all, v, rfl, hgen, hown, hb⟩
  obtain ⟨A1, c1, rfl, _, _, _⟩ := own_form hown
  have HS := Lib.hid hgen.small_
  have HB1 := Lib.hid hb
  have HR1 := Lib.hid (RC.of_own hown)
  obtain ⟨m, hm⟩ : ∃ m, ps.length = m := ⟨_, rfl⟩
  have HM := Lib.hid hm
  rw [hm]
  clear hgen hown hb hm HG
  have hm100 : m ≤ 100 := by have := HS.out.1; have := HM.out; omega
  obtain ⟨D, hD⟩ : ∃ D, map10 ps = D := ⟨_, rfl⟩
  have hDl : D.length ≤ 5000 := by rw [← hD, map10_len]; have := tl_le HS.out; have := pad_le (tl ps); omega
  obtain ⟨t, ht⟩ : ∃ t, tl ps = t := ⟨_, rfl⟩
  have ht0 : 0 < t := by rw [← ht]; exact tl_pos ps
  have htD : t ≤ D.length := by rw [← hD, map10_len, ← ht]; exact pad_ge _
  have HLAST : Hid (byt D (t - 1) = 10) := Lib.hid (by
    have h := map10_last ps
    rw [hD, ht] at h
    simp [byt, List.getD, h])
  have HZERO : Hid (∀ i, t ≤ i → i < D.length → byt D i = 0) := Lib.hid (fun i h1 h2 => by
    have h := map10_zero ps i (by rw [ht]; exact h1) (by rw [hD]; exact h2)
    rw [hD] at h
    simp [byt, List.getD, h])
  have HD := Lib.hid hD
  have HT := Lib.hid ht
  clear hD ht
  go_wp2_with fail
  refine (specMap10 A1 m c1 _ ps _ HM.out HR1.out (Nat.le_refl _) HS.out).mono ?_
  rw [HD.out]
  rintro e w2 ⟨v2, rfl, ho2, hb2⟩
  obtain ⟨A2, c2, rfl, _, hnc2, _⟩ := own_form ho2
  have HO2 := Lib.hid ho2
  have HB2 := Lib.hid (HB1.out.trans (hb2.mono HB1.out.size))
  have HRB2 : Hid (RB w2 w2.heap.size A2 D) := Lib.hid (RB.of_RC (RC.of_own ho2))
  obtain ⟨g, rfl, hgb, hgl, _, _, _⟩ := own_store ho2 (k := 0) (by omega)
  have hnc2' : (D.length : Int) ≤ (c2 : Int) := by omega
  clear ho2 hb2
  have HCELL : Hid (∀ i, i < D.length → w2.cell? ⟨g, i, none⟩ = some (.int .u8 (byt D i))) := Lib.hid (fun i hi => by
    obtain ⟨b, off, hA, _, hc⟩ := HRB2.out (by omega)
    injection hA with hA
    injection hA with hA1 hA2
    subst hA1 hA2
    have := hc i hi
    simpa using this)
  go_wp2
  go_loopw [11] (fun ev wr => ∃ e : Nat, t ≤ e ∧ e ≤ D.length ∧ ev = .int .i64 e ∧ wr = w2) (fun ev _ => (intOf ev).toNat)
  case atStart => exact ⟨D.length, htD, Nat.le_refl _, rfl, rfl⟩
  case round =>
    obtain ⟨e, he1, he2, rfl, hwr⟩ := hrel
    have hwr' := hwr.symm
    clear hwr
    subst hwr'
    obtain ⟨e', rfl⟩ : ∃ e', e = e' + 1 := ⟨e - 1, by omega⟩
    have u1 : IntKind.i64.wrap (((e' + 1 : Nat) : Int) - 1) = (e' : Int) := by rw [IntWalk.i64_in _ (by omega)]; omega
    have u2 : (0 : Int) ≤ (e' : Int) := by omega
    have u3 : (e' : Int) < (D.length : Int) := by omega
    by_cases hz : t ≤ e'
    · have hc := HCELL.out e' (by omega)
      rw [HZERO.out e' hz (by omega)] at hc
      go_wp2
      go_roundw
      case rel => exact ⟨e', hz, by omega, by first | trivial | rfl | go_num, by first | trivial | rfl⟩
      case measure => simp [intOf] <;> omega
    · obtain rfl : t = e' + 1 := by omega
      have hc := HCELL.out e' (by omega)
      have hl := HLAST.out
      rw [Nat.add_sub_cancel] at hl
      rw [hl] at hc
      obtain ⟨k, hk⟩ : ∃ k : Nat, x % ((e' + 1 : Nat) : Int) = (k : Int) := ⟨(x % ((e' + 1 : Nat) : Int)).toNat, by have := Int.emod_nonneg x (show ((e' + 1 : Nat) : Int) ≠ 0 by omega); omega⟩
      have hkt : k < e' + 1 := by have := Int.emod_lt_of_pos x (show (0 : Int) < ((e' + 1 : Nat) : Int) by omega); omega
      have HK := Lib.hid hk
      have HBL := fun w => Lib.hid (below_any x ((e' + 1 : Nat) : Int) w hx hx' (by omega) (by omega))
      clear hk hl
      have HC2 : Hid (RdYes ps D [] w2) := Lib.hid (by
        have h := rdYes_map10 ps [] w2 HS.out (HE.out.below HB2.out)
        rwa [List.append_nil, HD.out] at h)
      go_wp2_with (go_at_call 21; refine (HBL _).out.mono ?_; rw [HK.out]; rintro e w' ⟨rfl, rfl⟩)
      refine (implMap10_yes (some ⟨g, 0, none⟩) D.length c2 _ 0 D [] ps w2 rfl HRB2.out (Nat.le_refl _) (by omega) (by have := HM.out; omega) rfl HC2.out).mono ?_
      rintro e w3 ⟨A4, c4, rfl, hr4, hb3⟩
      have HB3 := Lib.hid (HB2.out.trans (hb3.mono HB2.out.size))
      have HO3 := Lib.hid (own_below HO2.out hb3 (Nat.le_refl _))
      have HRB3 : Hid (RB w3 w2.heap.size (some ⟨g, 0, none⟩) (D.take k)) := Lib.hid ((HRB2.out.below hb3).take k)
      have HC3 : Hid (RdNo (D.take k) w3) := Lib.hid (by
        have h := rdNo_cut ps k w3 HS.out (by rw [HT.out]; exact hkt) (HE.out.below HB3.out)
        rwa [HD.out] at h)
      have HZ3 := Lib.hid hb3.size
      rw [HM.out]
      clear hr4 hb3
      have k0 : (0 : Int) ≤ (k : Int) := by omega
      have k1 : (k : Int) ≤ (D.length : Int) := by omega
      have k2 : (k : Int) ≤ (c2 : Int) := by omega
      have k3 : (k : Int) < (D.length : Int) := by omega
      go_wp2_with fail
      refine (implMap10_no (some ⟨g, 0, none⟩) k c2 _ (D.take k) w3 (by rw [List.length_take]; omega) HRB3.out HZ3.out (by omega) HC3.out).mono ?_
      rintro e w4 ⟨A5, c5, rfl, hb4⟩
      have HB4 := Lib.hid (HB3.out.trans (hb4.mono HB3.out.size))
      have HO4 := Lib.hid (own_below HO3.out hb4 (Nat.le_refl _))
      have hck : w4.cell? ⟨g, k, none⟩ = some (.int .u8 (byt D k)) := by
        have h1 : w3.cell? ⟨g, k, none⟩ = some (.int .u8 (byt D k)) := by
          obtain ⟨b, off, hA, _, hc⟩ := (RB.of_RC (RC.of_own HO3.out)) (by omega)
          injection hA with hA
          injection hA with hA1 hA2
          subst hA1 hA2
          have := hc k (by omega)
          simpa using this
        exact (hb4.cell (p := ⟨g, k, none⟩) (Nat.lt_of_lt_of_le hgl HZ3.out)).trans h1
      clear hb4
      have b0 := byt_lo D k
      have b1 := byt_hi D k
      by_cases q1 : 48 ≤ ch ∧ ch ≤ 57
      · obtain ⟨q1a, q1b⟩ := q1
        go_wp2
        go_ret
        exact ⟨rfl, HB4.out⟩
      have q1' : (decide (48 ≤ ch) && decide (ch ≤ 57)) = false := by simp; omega
      by_cases q2 : ch = 10
      · subst q2
        go_wp2
        go_ret
        exact ⟨rfl, HB4.out⟩
      by_cases q3 : ch = 43
      · subst q3
        go_wp2
        go_ret
        exact ⟨rfl, HB4.out⟩
      by_cases q4 : ch = 45
      · subst q4
        go_wp2
        go_ret
        exact ⟨rfl, HB4.out⟩
      have q2' : (ch == 10) = false := by simpa using q2
      have q3' : (ch == 43) = false := by simpa using q3
      have q4' : (ch == 45) = false := by simpa using q4
      by_cases q5 : byt D k = 10
      · rw [q5] at hck
        rcases Int.lt_or_le ch 48 with q6 | q6
        · have q7 : ¬ (48 : Int) ≤ ch := by omega
          go_wp2
          go_ret
          exact ⟨rfl, HB4.out⟩
        · have q7 : ¬ ch ≤ 57 := by omega
          go_wp2
          go_ret
          exact ⟨rfl, HB4.out⟩
      have q5' : (byt D k == 10) = false := by simpa using q5
      obtain ⟨g', hA', _, _, _, hfz, hset⟩ := own_store HO4.out (k := k) (by omega)
      obtain rfl : g' = g := by injection hA' with h; injection h with h1 h2; exact h1.symm
      obtain ⟨u, hu⟩ : ∃ u : UInt8, (u.toNat : Int) = ch := ⟨UInt8.ofNat ch.toNat, by simp; omega⟩
      have HSET : Hid ((w4.setCell ⟨g', k, none⟩ (.int .u8 ch)).ownsRow w1.heap.size 5 1 (.slice (some ⟨g', 0, none⟩) D.length c2) D.length (bys (D.set k u))) := Lib.hid (by rw [← hu]; exact hset u)
      have HB5 : Hid (Below w.heap.size w (w4.setCell ⟨g', k, none⟩ (.int .u8 ch))) := Lib.hid (HB4.out.setCell (p := ⟨g', k, none⟩) (Nat.le_trans HB1.out.size hgb) _)
      have HODD : Hid (odd u) := Lib.hid ⟨by omega, by intro h; rw [h] at hu; exact q2 (by rw [← hu]; rfl), by omega, by omega⟩
      have HN10 : Hid (D[k]? ≠ some 10) := Lib.hid (by
        intro h
        apply q5
        simp [byt, List.getD, h])
      clear hset hA' hu
      obtain ⟨w5, hw5⟩ : ∃ w5, w5 = w4.setCell ⟨g', k, none⟩ (.int .u8 ch) := ⟨_, rfl⟩
      rw [← hw5] at HSET HB5
      have HW5 := Lib.hid hw5
      clear hw5
      have HC5 : Hid (RdNo (D.set k u) w5) := Lib.hid (by
        have h := rdNo_set ps k u w5 HS.out (by rw [HT.out]; exact hkt) (by rw [HD.out]; exact HN10.out) HODD.out (HE.out.below HB5.out)
        rwa [HD.out] at h)
      have HCALL := Lib.hid (implMap10_no (some ⟨g', 0, none⟩) D.length c2 _ (D.set k u) w5 (by rw [List.length_set]) (RB.of_RC (RC.of_own HSET.out)) (Nat.le_refl _) (by omega) HC5.out)
      rcases Int.lt_or_le ch 48 with q6 | q6
      · have q7 : ¬ (48 : Int) ≤ ch := by omega
        go_wp2_with fail
        rw [← HW5.out]
        refine HCALL.out.mono ?_
        rintro e w6 ⟨A6, c6, rfl, hb6⟩
        have HB6 := Lib.hid (HB5.out.trans (hb6.mono HB5.out.size))
        clear hb6
        go_wp2
        go_ret
        exact ⟨rfl, HB6.out⟩
      · have q7 : ¬ ch ≤ 57 := by omega
        go_wp2_with fail
        rw [← HW5.out]
        refine HCALL.out.mono ?_
        rintro e w6 ⟨A6, c6, rfl, hb6⟩
        have HB6 := Lib.hid (HB5.out.trans (hb6.mono HB5.out.size))
        clear hb6
        go_wp2
        go_ret
        exact ⟨rfl, HB6.out⟩
end Go.Proofs.YtlchagphjmfooaaDoor
