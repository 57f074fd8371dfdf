/- ZZAllowed and impl.Allowed: their walks. -/
import Derived.Test.YtepeehjajhehfaaGreatDoorAl
import Derived.Test.YtepeehjajhehfaaGreatDoorMB3
import Derived.Test.YtepeehjajhehfaaGreatDoorMB4
namespace Go.Proofs.YtepeehjajhehfaaGreatDoor
open Go.RowKit Go.PlainAid Go.Maps Go.ChangeMaps Go.MapKept Go.WideMaps
set_option linter.unusedVariables false

theorem isErrT : Tryz.prog.isIface 101 = true := by kernel_rfl
theorem le_sizes {h : Hd} {mx an ax cn cx : Int} {R L : List (ByteArray × ByteArray)} (ok : h.Ok) (hs : h.name.size ≤ 2147483647 ∧ h.link.size ≤ 2147483647 ∧ h.un.size ≤ 2147483647 ∧ h.gn.size ≤ 2147483647) (hRs : ∀ x ∈ R, x.1.size ≤ 2147483647 ∧ x.2.size ≤ 2147483647) (hL : LE h mx an ax cn cx R L) : ∀ x ∈ L, x.1.size ≤ 4000000000 ∧ x.2.size ≤ 4000000000 := fun x hx => by
  rcases hL.src x hx with h9 | ⟨h9, _, _⟩
  · exact fe_size h mx an ax cn cx ok hs x h9
  · obtain ⟨a1, a2⟩ := hRs x (mem_tab h9)
    exact ⟨by omega, by omega⟩
set_option maxRecDepth 20000 in
set_option maxHeartbeats 6400000 in
theorem zzAllowed (h : Hd) (mx an ax cn cx : Int) (pm : Option Nat) (R : List (ByteArray × ByteArray)) (w : World) (ok : h.Ok) (hR : RMap w.heap.size pm R w) (hT : Tab w) (hBK : BK w.heap.size w) (hRn : ∀ q, pm = some q → R ≠ []) (hRs : ∀ x ∈ R, x.1.size ≤ 2147483647 ∧ x.2.size ≤ 2147483647) (hRl : R.length ≤ 2147483647) (hnz : ¬ (h.mn = 0 ∧ mx = 0))
    (ht1 : 0 ≤ h.mn ∧ h.mn < 1000000000) (ht2 : 0 ≤ an ∧ an < 1000000000) (ht3 : 0 ≤ cn ∧ cn < 1000000000) (hs : h.name.size ≤ 2147483647 ∧ h.link.size ≤ 2147483647 ∧ h.un.size ≤ 2147483647 ∧ h.gn.size ≤ 2147483647) :
    Calls Tryz.prog 31 #[.agg (h.tcells mx an ax cn cx pm).toArray] w (ZalP 108 h mx an ax cn cx R w) := by
  obtain ⟨X, hX⟩ : ∃ X, (h.tcells mx an ax cn cx pm).toArray = X := ⟨_, rfl⟩
  have HB0 : Hid (Blk (w.alloc (.cells X 75)) w.heap.size 75 (h.tcells mx an ax cn cx pm)) := Lib.hid (by rw [← hX]; exact Blk.new w _ _)
  have HW0 : Hid (Below w.heap.size w (w.alloc (.cells X 75))) := Lib.hid ((Below.refl _ _).alloc (Nat.le_refl _) _)
  have HXB : Hid ((w.alloc (.cells X 75)).heap[w.heap.size]? = some (Obj.cells X 75 (0, 0))) := Lib.hid (heap_alloc_new _ _)
  have HXS : Hid ((Tryz.prog.info? 75).map (·.size) = some X.size) := Lib.hid (by rw [← hX]; exact thsize _ _ _ _ _ _ _)
  have HLE : Hid (∀ L, LE h mx an ax cn cx R L → (∀ x ∈ L, x.1.size ≤ 4000000000 ∧ x.2.size ≤ 4000000000) ∧ L.length ≤ 2147483673) := Lib.hid (fun L hL => ⟨le_sizes ok hs hRs hL, by have := hL.len; omega⟩)
  have HA : Hid (Calls Tryz.prog 51 #[.agg X] (w.alloc (.cells X 75)) (AllP h mx an ax cn cx R (w.alloc (.cells X 75)))) := Lib.hid (by
    rw [← hX]
    exact allowed h mx an ax cn cx pm R _ ok ((hR.below ((Below.refl _ _).alloc (Nat.le_refl _) _) (Nat.le_refl _)).more (by simp)) (tab_below hT ((Below.refl _ _).alloc (Nat.le_refl _) _)) (hBK.more ((Below.refl _ _).alloc (Nat.le_refl _) _) (by simp)) hRn hRs hRl hnz ht1 ht2 ht3 hs)
  have hneq := fun w x => run_neq_iface_nil (P := Tryz.prog) (w := w) 101 isErrT 144 x
  rw [hX]
  clear ok hR hT hBK hRn hRs hRl hnz ht1 ht2 ht3 hs hX
  go_enter Tryz.func31, Tryz.ntmps31
  go_upto_region 1 with fail
  generalize w.alloc (.cells X 75) = w1 at HB0 HW0 HXB HA ⊢
  go_wp2_with (refine wpList_load_row (o := ⟨some 11, _, _, _, _, _⟩) rfl 75 (.tmp 1) rfl w.heap.size rfl 75 X (0, 0) _ HXB.out Tryz.underlying75 rfl HXS.out ?_)
  refine HA.out.mono ?_
  rintro e w2 (⟨⟨v1, v2, x, rfl⟩, hN, hb⟩ | ⟨u, p, g, b, L, rfl, how, hY, hb⟩)
  · have HN := Lib.hid hN
    have HW2 : Hid (Below w.heap.size w w2) := Lib.hid (HW0.out.trans (hb.mono HW0.out.size))
    clear hN hb
    go_wp2
    (try simp only [Exit.inBlock, Exit.then])
    refine bodyPost_ret (results_tmp5 rfl _ _ _) rfl ?_
    exact .inl ⟨⟨_, _, rfl⟩, HN.out, HW2.out⟩
  · have HY := Lib.hid hY
    have HW2 : Hid (Below w.heap.size w w2) := Lib.hid (HW0.out.trans (hb.mono HW0.out.size))
    have HO := Lib.hid how
    have HLL := Lib.hid (HLE.out L hY.2.2.1)
    clear hY hb how
    go_wp2_with fail
    refine (fmtHas u p g _).1.mono ?_
    rintro e w' ⟨rfl, hw9⟩
    subst hw9
    go_wp2_with fail
    refine (fmtHas u p g _).2.1.mono ?_
    rintro e w' ⟨rfl, hw9⟩
    subst hw9
    go_wp2_with fail
    refine (fmtHas u p g _).2.2.mono ?_
    rintro e w' ⟨rfl, hw9⟩
    subst hw9
    go_wp2_with fail
    refine (zzSorted_any b L.length L w2 HO.out (by have := HLL.out.2; omega) (fun x hx => by have := HLL.out.1 x hx; omega)).mono ?_
    rintro e w3 ⟨v, rfl, how, hb⟩
    have HO3 := Lib.hid (own_bs how HW2.out.size)
    have HW3 : Hid (Below w.heap.size w w3) := Lib.hid (HW2.out.trans (hb.mono HW2.out.size))
    clear how hb
    obtain ⟨A, c, rfl, _, _, _⟩ := own_form HO3.out
    go_wp2
    (try simp only [Exit.inBlock, Exit.then])
    refine bodyPost_ret (results_tmp5 rfl _ _ _) rfl ?_
    exact .inr ⟨u, p, g, L, _, rfl, HY.out, HO3.out, HW3.out⟩
set_option maxRecDepth 20000 in
set_option maxHeartbeats 6400000 in
theorem implAllowed (h : Hd) (B : Nat) (rs : List (ByteArray × ByteArray)) (w : World) (ok : h.Ok) (hl : rs.length = h.rn) (hr : RC w B h.rA (recsV rs)) (hB : B ≤ w.heap.size) (hf : HFits h rs) (hfm : h.fm = 0) (hT : Tab w) (hBK : BK w.heap.size w)
    (hm : 0 ≤ h.mn ∧ h.mn < 1000000000) (ha : h.ha = true → 0 ≤ h.an ∧ h.an < 1000000000) (hc : h.hc = true → 0 ≤ h.cn ∧ h.cn < 1000000000) (hnz : ¬ (h.mn = 0 ∧ unx h.ms = 0)) :
    Calls Tryz.prog 11 #[h.ival] w (AlwP h rs w) := by
  have HB0 : Hid (Blk (w.alloc (.cells h.iarr 26)) w.heap.size 26 h.icells) := Lib.hid (h.iblk w _)
  have HW0 : Hid (Below w.heap.size w (w.alloc (.cells h.iarr 26))) := Lib.hid ((Below.refl _ _).alloc (Nat.le_refl _) _)
  have hRs : ∀ x ∈ rs, x.1.size ≤ 2147483647 ∧ x.2.size ≤ 2147483647 := fun x hx => by
    obtain ⟨k, hk, rfl⟩ := List.getElem_of_mem hx
    have h9 := hf.2.2.2.2.2 k hk
    have e9 : (rk rs k, rv rs k) = rs[k] := by simp [rk, rv, List.getD, hk]
    rw [← e9]
    exact h9
  have HH : Hid (Calls Tryz.prog 32 #[.agg h.iarr] (w.alloc (.cells h.iarr 26)) (HdrP h rs (w.alloc (.cells h.iarr 26)))) := Lib.hid (implHeader h B rs _ hl (hr.below ((Below.refl _ _).alloc hB _)) (by simp; omega) hf.2.2.2.2 hfm hm ha hc)
  have HZ : Hid (∀ w2 an ax cn cx pm, Below w.heap.size w w2 → RMap w2.heap.size pm rs w2 → (∀ q, pm = some q → rs ≠ []) → (0 ≤ an ∧ an < 1000000000) → (0 ≤ cn ∧ cn < 1000000000) → Calls Tryz.prog 31 #[.agg (h.tcells (unx h.ms) an ax cn cx pm).toArray] w2 (ZalP 108 h (unx h.ms) an ax cn cx rs w2)) := Lib.hid (fun w2 an ax cn cx pm hb hr2 hn2 ha2 hc2 =>
    zzAllowed h (unx h.ms) an ax cn cx pm rs w2 ok hr2 (tab_below hT hb) (hBK.more hb hb.size) hn2 hRs hf.2.2.2.2.1 hnz hm ha2 hc2 ⟨hf.1, hf.2.1, hf.2.2.1, hf.2.2.2.1⟩)
  have HMA : Hid (∀ an ax, MayT h.ha h.as_ h.an an ax → 0 ≤ an ∧ an < 1000000000) := Lib.hid (fun an ax hh => may_rng hh ha)
  have HMC : Hid (∀ cn cx, MayT h.hc h.cs h.cn cn cx → 0 ≤ cn ∧ cn < 1000000000) := Lib.hid (fun cn cx hh => may_rng hh hc)
  have HLE : Hid (∀ an ax cn cx L, LE h (unx h.ms) an ax cn cx rs L → (tab L).length ≤ 8589934592) := Lib.hid (fun an ax cn cx L hL => by have h1 := hL.len; have h2 := tab_len L; have h3 := hf.2.2.2.2.1; omega)
  unfold Hd.ival
  clear ok hl hr hB hf hfm hT hBK hm ha hc hnz hRs
  go_enter Tryz.func11, Tryz.ntmps11
  go_upto_region 1 with fail
  generalize w.alloc (.cells h.iarr 26) = w1 at HB0 HW0 HH ⊢
  go_wp2_with (refine wpList_load_row (o := ⟨some 9, _, _, _, _, _⟩) rfl 26 (.tmp 1) rfl w.heap.size rfl 26 h.iarr (0, 0) _ HB0.out Tryz.underlying26 rfl h.isize_ ?_)
  refine HH.out.mono ?_
  rintro e w2 ⟨Hb, an, ax, cn, cx, pm, rfl, hblk, hHb, hma, hmc, hnm, hb⟩
  have HW2 : Hid (Below w.heap.size w w2) := Lib.hid (HW0.out.trans (hb.mono HW0.out.size))
  have HM := Lib.hid (And.intro hma hmc)
  obtain ⟨X, hX⟩ : ∃ X, (h.tcells (unx h.ms) an ax cn cx pm).toArray = X := ⟨_, rfl⟩
  have HBX : Hid (w2.heap[Hb]? = some (Obj.cells X 75 (0, 0))) := Lib.hid (by rw [← hX]; exact hblk)
  have HXS : Hid ((Tryz.prog.info? 75).map (·.size) = some X.size) := Lib.hid (by rw [← hX]; exact thsize _ _ _ _ _ _ _)
  have HZ2 : Hid (Calls Tryz.prog 31 #[.agg X] w2 (ZalP 108 h (unx h.ms) an ax cn cx rs w2)) := Lib.hid (by
    rw [← hX]
    exact HZ.out w2 an ax cn cx pm HW2.out (RMap.of_new hnm) (fun q hq hn => by
      rcases hnm with ⟨h1, _⟩ | ⟨_, _, _, h3, _⟩
      · rw [hq] at h1; cases h1
      · rw [hn] at h3; exact absurd h3 (by simp)) (HMA.out an ax hma) (HMC.out cn cx hmc))
  clear hblk hHb hma hmc hnm hb hX
  go_wp2_with (refine wpList_load_row (o := ⟨some 12, _, _, _, _, _⟩) rfl 75 (.tmp 11) rfl Hb rfl 75 X (0, 0) _ HBX.out Tryz.underlying75 rfl HXS.out ?_)
  refine HZ2.out.mono ?_
  rintro e w3 (⟨⟨A0, c0, rfl⟩, hN, hb⟩ | ⟨u, p, g, L, v, rfl, hY, how, hb⟩)
  · have HN := Lib.hid hN
    have HW3 : Hid (Below w.heap.size w w3) := Lib.hid (HW2.out.trans (hb.mono HW2.out.size))
    have HI := Lib.hid (implRecs A0 0 c0 w3.heap.size [] w3 rfl RC.nil_ (Nat.le_refl _) (by omega))
    clear hN hb
    go_wp2_with fail
    refine HI.out.mono ?_
    rintro e w4 ⟨v, rfl, how, hb⟩
    have HW4 : Hid (Below w.heap.size w w4) := Lib.hid (HW3.out.trans (hb.mono HW3.out.size))
    obtain ⟨A, c, rfl, _, _, _⟩ := own_form how
    clear how hb
    go_wp2
    (try simp only [Exit.inBlock, Exit.then])
    refine bodyPost_ret (results_tmp5 rfl _ _ _) rfl ?_
    exact ⟨an, ax, cn, cx, HM.out.1, HM.out.2, .inl ⟨⟨_, _, rfl⟩, HN.out, HW4.out⟩⟩
  · have HY := Lib.hid hY
    have HW3 : Hid (Below w.heap.size w w3) := Lib.hid (HW2.out.trans (hb.mono HW2.out.size))
    obtain ⟨A, c, rfl, _, _, _⟩ := own_form how
    have HI := Lib.hid (implRecs A (tab L).length c _ (tab L) w3 rfl (RC.of_own how) (Nat.le_refl _) (HLE.out an ax cn cx L hY.2.2.1))
    clear hY how hb
    go_wp2_with fail
    refine HI.out.mono ?_
    rintro e w4 ⟨v, rfl, how, hb⟩
    have HO4 := Lib.hid (own_bs how HW3.out.size)
    have HW4 : Hid (Below w.heap.size w w4) := Lib.hid (HW3.out.trans (hb.mono HW3.out.size))
    clear how hb
    obtain ⟨A4, c4, rfl, _, _, _⟩ := own_form HO4.out
    go_wp2
    (try simp only [Exit.inBlock, Exit.then])
    refine bodyPost_ret (results_tmp5 rfl _ _ _) rfl ?_
    exact ⟨an, ax, cn, cx, HM.out.1, HM.out.2, .inr ⟨u, p, g, L, _, rfl, HY.out, HO4.out, HW4.out⟩⟩
theorem alwAt : AlwAt := fun h B rs w ok hl hr hB hf hfm hT hBK hm ha hc hnz => implAllowed h B rs w ok hl hr hB hf hfm hT hBK hm ha hc hnz
end Go.Proofs.YtepeehjajhehfaaGreatDoor
