/- The laws FnMap10 and FnMap10IsTold: their own walks. -/
import Derived.Test.YtlchagphjmfooaaDoorM10L
import Derived.Test.YtlchagphjmfooaaDoorMap4
import Derived.Test.YtlchagphjmfooaaDoorBelow
namespace Go.Proofs.YtlchagphjmfooaaDoor
open Go.RowKit Go.PlainAid
set_option linter.unusedVariables false

theorem Errs5.below {w w' : World} (h : Errs5 w) (hb : Below w.heap.size w w') : Errs5 w' := by
  obtain ⟨⟨a, ha⟩, ⟨b, hb'⟩, ⟨c, hc⟩, ⟨d, hd⟩, ⟨e, he⟩⟩ := h
  exact ⟨⟨a, ha.to hb hb.size⟩, ⟨b, hb'.to hb hb.size⟩, ⟨c, hc.to hb hb.size⟩, ⟨d, hd.to hb hb.size⟩, ⟨e, he.to hb hb.size⟩⟩
set_option maxRecDepth 20000 in
set_option maxHeartbeats 6400000 in
theorem fnMap10_walk (A : Option Addr) (n c B : Nat) (ns : List Int) (A2 : Option Addr) (n2 c2 : Nat) (bs : List UInt8) (w : World) (hn : ns.length = n) (hr : RC w B A (nums ns)) (hB : B ≤ w.heap.size) (hsm : Small ns) (hn2 : bs.length = n2) (hr2 : RB w B A2 bs) (hE : Errs5 w) :
    Calls Tryd.prog 10 #[.slice A n c, .slice A2 n2 c2] w fun e w' => e = .returned (.bool true) ∧ Below w.heap.size w w' := by
  by_cases hbig : 2147483647 < n
  · clear hE
    go_enter Tryd.func10, Tryd.ntmps10
    go_wp2
    go_ret
    exact ⟨rfl, Below.refl _ _⟩
  by_cases hbig2 : 2147483647 < n2
  · clear hE
    go_enter Tryd.func10, Tryd.ntmps10
    go_wp2
    go_ret
    exact ⟨rfl, Below.refl _ _⟩
  have HG := Lib.hid (pieces_any A n c B ns w hn hr hB (by omega) hsm)
  have HRB := Lib.hid (RC.of_RB hr2)
  have HN2 := Lib.hid hn2
  have HE := Lib.hid hE
  clear hn hr hsm hr2 hn2 hE
  go_enter Tryd.func10, Tryd.ntmps10
  go_wp2_with fail
  refine HG.out.mono ?_
  rintro e w1 ⟨ps, sz, all, v, rfl, hgen, hown, hb⟩
  obtain ⟨A1, c1, rfl, _, _, _⟩ := own_form hown
  have HS := Lib.hid hgen.small_
  have HB1 := Lib.hid hb
  have HR1 := Lib.hid (RC.of_own hown)
  have HFIT : Hid (Fit ps) := Lib.hid (by
    intro p hp
    obtain ⟨k, hk, rfl⟩ := List.getElem_of_mem hp
    have := hgen.small_.2 k hk
    simp [po, pl, List.getD, hk] at this
    omega)
  obtain ⟨m, hm⟩ : ∃ m, ps.length = m := ⟨_, rfl⟩
  have HM := Lib.hid hm
  rw [hm]
  clear hgen hown hb hm HG
  have hm100 : m ≤ 100 := by have := HS.out.1; have := HM.out; omega
  obtain ⟨D, hD⟩ : ∃ D, map10 ps = D := ⟨_, rfl⟩
  have hDl : D.length ≤ 5000 := by rw [← hD, map10_len]; have := tl_le HS.out; have := pad_le (tl ps); omega
  have HD := Lib.hid hD
  have HLB : Hid ((bys bs).length = n2 * 1) := Lib.hid (by rw [length_bys, HN2.out]; omega)
  clear hD
  go_wp2_with (first
    | (go_at_call 29; refine (specMap10 A1 m c1 _ ps _ HM.out HR1.out (Nat.le_refl _) HS.out).mono ?_; rw [HD.out]; rintro e w2 ⟨v2, rfl, ho2, hb2⟩; have HO2 := Lib.hid ho2; have HB2 := Lib.hid (HB1.out.trans (hb2.mono HB1.out.size)); have HR2 : Hid (RC w2 w1.heap.size A1 (pcs ps)) := Lib.hid (HR1.out.below hb2); have HW2 := Lib.hid hb2.size; clear ho2 hb2)
    | (at_builtin; refine wpList_append_rc (o := ⟨some 30, _, _, _, _, _⟩) _ rfl (.tmp 28) (.tmp 29) _ rfl w1.heap.size 5 _ 1 1 Tryd.underlying62 u8info rfl (by omega) _ D.length (bys D) rfl HO2.out A2 n2 c2 B (bys bs) rfl HLB.out (HRB.out.below (HB2.out.mono hB)) (bys_one bs) (by omega) (by omega) HW2.out ?_))
  intro v3 w3 h1 h2 h3
  obtain ⟨A3, c3, rfl, _, _, _⟩ := own_form h1.out
  have HB3 : Hid (Below w.heap.size w w3) := Lib.hid (HB2.out.grown h2.out HB2.out.size (fun g hg => Nat.le_trans HB1.out.size (HO2.out.lt g hg).1))
  have HR3 : Hid (RC w3 w3.heap.size A1 (pcs ps)) := Lib.hid ((HR2.out.grown h2.out HW2.out (fun g hg => (HO2.out.lt g hg).1)).more (Nat.le_trans HW2.out h2.out.size))
  have HRX : Hid (RB w3 w3.heap.size A3 (D ++ bs)) := Lib.hid (RB.of_RC (by rw [bys_cat]; exact RC.of_own h1.out))
  have HC : Hid (RdYes ps (D ++ bs) bs w3) := Lib.hid (by rw [← HD.out]; exact rdYes_map10 ps bs w3 HS.out (HE.out.below HB3.out))
  clear h1 h2 h3
  go_wp2_with fail
  refine (implMap10_yes A3 (D.length + n2) c3 _ n2 (D ++ bs) bs ps w3 (by rw [List.length_append, HN2.out]) HRX.out (Nat.le_refl _) (by omega) (by have := HM.out; omega) HN2.out HC.out).mono ?_
  rintro e w4 ⟨A4, c4, rfl, hr4, hb4⟩
  have HRA := Lib.hid hr4
  have HB4 := Lib.hid (HB3.out.trans (hb4.mono HB3.out.size))
  have HR4 := Lib.hid (HR3.out.below hb4)
  rw [HM.out]
  clear hr4 hb4
  have e1 : ((m : Int) != (m : Int)) = false := by simp
  have e2 : ((n2 : Int) != (n2 : Int)) = false := by simp
  go_wp2
  go_loopw [11, 52] (fun _ i wr => ∃ (k q : Nat), k ≤ m ∧ i = .int .i64 k ∧ wr = w4.drewN q) (fun _ i _ => m - (intOf i).toNat)
  case atStart => exact ⟨0, 0, by omega, rfl, rfl⟩
  case round =>
    obtain ⟨k, q, hk, rfl, rfl⟩ := hrel
    by_cases hlt2 : k < m
    · obtain ⟨b1, o1, rfl, _, x1, x2⟩ := (HRA.out.drewN q).piece (k := k) (by rw [HM.out]; exact hlt2)
      obtain ⟨b2, o2, rfl, _, y1, y2⟩ := (HR4.out.drewN q).piece (k := k) (by rw [HM.out]; exact hlt2)
      obtain ⟨f1, f2, f3, f4⟩ := HFIT.out.at_ k
      have k0 : (0 : Int) ≤ (k : Int) := by omega
      have k1 : (k : Int) < (m : Int) := by omega
      obtain ⟨wd, hwd⟩ : ∃ wd, wd = w4.drewN q := ⟨_, rfl⟩
      have HWD := Lib.hid hwd
      rw [← hwd] at x1 x2 y1 y2 ⊢
      clear hwd
      go_wp2
      go_region_held3 (fun w' => w'.cell? ⟨b1, o1 + k * 2, none⟩ = some (.int .i64 (po ps k)) ∧ w'.cell? ⟨b1, o1 + k * 2 + 1, none⟩ = some (.int .i64 (pl ps k)) ∧ w'.cell? ⟨b2, o2 + k * 2, none⟩ = some (.int .i64 (po ps k)) ∧ w'.cell? ⟨b2, o2 + k * 2 + 1, none⟩ = some (.int .i64 (pl ps k))) (go_keep) (fail)
      go_wp2
      go_roundw
      case rel => exact ⟨k + 1, q + 1, by omega, by go_num, by rw [HWD.out]; rfl⟩
      case measure => simp [intOf]; omega
    · obtain rfl : k = m := by omega
      go_wp2
      go_ret
      exact ⟨rfl, below_drewN HB4.out q⟩
end Go.Proofs.YtlchagphjmfooaaDoor
