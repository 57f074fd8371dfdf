/- The law FnMap01: its own walk. -/
import Derived.Test.YtlchagphjmfooaaDoorMap3
import Derived.Test.YtlchagphjmfooaaDoorGen
namespace Go.Proofs.YtlchagphjmfooaaDoor
open Go.RowKit Go.PlainAid
set_option linter.unusedVariables false

theorem ve_mono_okG (ps : List (Int × Int)) : ∀ (d j : Nat), (∀ i, i < j + d → okG ps i) → ve ps j ≤ ve ps (j + d)
  | 0, j, _ => Int.le_refl _
  | d + 1, j, h => by
    have h1 := ve_mono_okG ps d j (fun i hi => h i (by omega))
    have h2 := h (j + d) (by omega)
    unfold okG at h2
    show _ ≤ po ps (j + d) + pl ps (j + d)
    omega
theorem Gen.small_ {ps : List (Int × Int)} {sz all : Int} (h : Gen ps sz all) : SmallP ps := by
  refine ⟨h.len, fun k hk => ?_⟩
  have h0 := ve_okG ps k (fun j hj => h.ok j (by omega))
  have h1 := h.ok k hk
  have h2 := ve_mono_okG ps (ps.length - (k + 1)) (k + 1) (fun i hi => h.ok i (by omega))
  rw [show k + 1 + (ps.length - (k + 1)) = ps.length by omega] at h2
  have h3 := h.end_
  have h4 : ve ps (k + 1) = po ps k + pl ps k := rfl
  unfold okG at h1
  omega
theorem irecinfo : (Tryd.prog.info? 27).map (fun i => (i.zero, i.size, i.bytes)) = some (some (.agg #[.string ⟨#[]⟩, .string ⟨#[]⟩]), 2, 32) := by kernel_rfl

set_option maxRecDepth 20000 in
set_option maxHeartbeats 6400000 in
theorem fnMap01_walk (A : Option Addr) (n c B : Nat) (ns : List Int) (z : Int) (w : World) (hn : ns.length = n) (hr : RC w B A (nums ns)) (hB : B ≤ w.heap.size) (hsm : Small ns) :
    Calls Tryd.prog 7 #[.slice A n c, .int .i64 z] w fun e w' => e = .returned (.bool true) ∧ Below w.heap.size w w' := by
  by_cases hbig : 2147483647 < n
  · go_enter Tryd.func7, Tryd.ntmps7
    go_wp2
    go_ret
    exact ⟨rfl, Below.refl _ _⟩
  have HG := Lib.hid (pieces_any A n c B ns w hn hr hB (by omega) hsm)
  clear hn hr hsm
  go_enter Tryd.func7, Tryd.ntmps7
  go_wp2_with fail
  refine HG.out.mono ?_
  rintro e w1 ⟨ps, sz, all, v, rfl, hgen, hown, hb⟩
  obtain ⟨A1, c1, rfl, _, _, _⟩ := own_form hown
  have HS := Lib.hid hgen.small_
  have HB1 := Lib.hid hb
  have HR1 := Lib.hid (RC.of_own hown)
  have HFIT : Hid (Fit ps) := Lib.hid (by
    intro p hp
    obtain ⟨k, hk, rfl⟩ := List.getElem_of_mem hp
    have := hgen.small_.2 k hk
    simp [po, pl, List.getD, hk] at this
    omega)
  obtain ⟨m, hm⟩ : ∃ m, ps.length = m := ⟨_, rfl⟩
  have HM := Lib.hid hm
  rw [hm]
  clear hgen hown hb hm HG
  by_cases hm0 : m = 0
  · subst hm0
    go_wp2
    go_ret
    exact ⟨rfl, HB1.out⟩
  have hm1 : 1 ≤ m := by omega
  have hm0' : ((m : Int) == 0) = false := by rw [beq_eq_false_iff_ne]; omega
  have hm100 : m ≤ 100 := by have := HS.out.1; have := HM.out; omega
  go_wp2_with fail
  refine (specMap01 A1 m c1 _ ps _ HM.out HR1.out (Nat.le_refl _) HS.out).mono ?_
  rintro e w2 ⟨g, hg, rfl, hblk, hb2⟩
  have HB2 := Lib.hid (HB1.out.trans (hb2.mono HB1.out.size))
  have HR2 : Hid (RC w2 w2.heap.size A1 (pcs ps)) := Lib.hid ((HR1.out.below hb2).more hb2.size)
  have HRR := Lib.hid ((RC.of_blk hblk).more hblk.lt)
  obtain ⟨rs, hrs⟩ : ∃ rs, rs = map01 ps := ⟨_, rfl⟩
  have HLEN : Hid (rs.length = 2) := Lib.hid (by rw [hrs]; rfl)
  have HRS := Lib.hid hrs
  rw [← hrs] at HRR
  clear hg hblk hb2 hrs
  go_wp2
  go_loopw [8, 29] (fun v i wr => ∃ k : Nat, k ≤ 2 ∧ i = .int .i64 k ∧ wr.ownsRow w2.heap.size 27 2 v k (recsV (rs.take k)) ∧ Below w2.heap.size w2 wr) (fun _ i _ => 2 - (intOf i).toNat)
  case atStart => exact ⟨0, by omega, rfl, World.ownsRow_nil _ _ _ _, Below.refl _ _⟩
  case round =>
    obtain ⟨k, hk, rfl, hown, hb⟩ := hrel
    by_cases hlt : k < 2
    · obtain ⟨b, off, hA, _, hc1, hc2⟩ := (HRR.out.below hb).rec_ (k := k) (by rw [HLEN.out]; exact hlt)
      injection hA with hA
      injection hA with hA1 hA2
      subst hA1 hA2
      rw [Nat.zero_add] at hc1 hc2
      have HO := Lib.hid hown
      have HB := Lib.hid hb
      clear hown hb
      have HB3 := Lib.hid (((HB.out.alloc (o := .cells #[.string (rk rs k), .string (rv rs k)] 23) HB.out.size).alloc (o := .cells #[.string (rk rs k), .string (rv rs k)] 27) (by have := HB.out.size; simp; omega)))
      go_wp2_with (refine wpList_append_rc (o := ⟨some 36, _, _, _, _, _⟩) _ rfl (.tmp 33) (.tmp 35) _ rfl w2.heap.size 27 _ 2 32 Tryd.underlying46 irecinfo rfl (by omega) _ k _ rfl ((HO.out.alloc _).alloc _) _ 1 1 _ _ rfl rfl (rc_new2 _ _ _ _) (two_strs _ _) (by omega) (by omega) (by have := HB.out.size; simp; omega) ?_)
      intro v' w1 h1 h2 h3
      have HP := Lib.hid (recsV_take rs k (by rw [HLEN.out]; exact hlt))
      go_wp2
      go_roundw
      case rel => exact ⟨k + 1, by omega, by go_num, by rw [HP.out]; exact h1.out, HB3.out.grown h2.out (by have := HB.out.size; simp; omega) (fun g hg => (HO.out.lt g hg).1)⟩
      case measure => simp [intOf]; omega
    · obtain rfl : k = 2 := by omega
      have HT : Hid (rs.take 2 = map01 ps) := by show _ = _; rw [List.take_of_length_le (by rw [HLEN.out]; exact Nat.le_refl _), HRS.out]
      rw [HT.out] at hown
      obtain ⟨A2, c2, rfl, _, _, _⟩ := own_form hown
      have HR3 := Lib.hid (RC.of_own hown)
      have HB := Lib.hid (HB2.out.trans (hb.mono HB2.out.size))
      have HR4 := Lib.hid ((HR2.out.below hb).more hb.size)
      clear hown hb
      go_wp2_with fail
      refine (implMap01 A2 c2 _ ps _ HR3.out (Nat.le_refl _) HS.out (by rw [HM.out]; exact hm1)).mono ?_
      rintro e w4 ⟨A3, c3, rfl, hr3, hb3⟩
      have HRA := Lib.hid hr3
      have HB4 := Lib.hid (HB.out.trans (hb3.mono HB.out.size))
      have HRB := Lib.hid (HR4.out.below hb3)
      rw [HM.out]
      clear hr3 hb3
      have e1 : ((m : Int) != (m : Int)) = false := by simp
      go_wp2
      go_loopw [13, 54] (fun _ i wr => ∃ (k q : Nat), k ≤ m ∧ i = .int .i64 k ∧ wr = w4.drewN q) (fun _ i _ => m - (intOf i).toNat)
      case atStart => exact ⟨0, 0, by omega, rfl, rfl⟩
      case round =>
        obtain ⟨k, q, hk, rfl, rfl⟩ := hrel
        by_cases hlt2 : k < m
        · obtain ⟨b1, o1, rfl, _, x1, x2⟩ := (HRA.out.drewN q).piece (k := k) (by rw [HM.out]; exact hlt2)
          obtain ⟨b2, o2, rfl, _, y1, y2⟩ := (HRB.out.drewN q).piece (k := k) (by rw [HM.out]; exact hlt2)
          obtain ⟨f1, f2, f3, f4⟩ := HFIT.out.at_ k
          have k0 : (0 : Int) ≤ (k : Int) := by omega
          have k1 : (k : Int) < (m : Int) := by omega
          obtain ⟨wd, hwd⟩ : ∃ wd, wd = w4.drewN q := ⟨_, rfl⟩
          have HWD := Lib.hid hwd
          rw [← hwd] at x1 x2 y1 y2 ⊢
          clear hwd
          go_wp2
          go_region_held3 (fun w' => w'.cell? ⟨b1, o1 + k * 2, none⟩ = some (.int .i64 (po ps k)) ∧ w'.cell? ⟨b1, o1 + k * 2 + 1, none⟩ = some (.int .i64 (pl ps k)) ∧ w'.cell? ⟨b2, o2 + k * 2, none⟩ = some (.int .i64 (po ps k)) ∧ w'.cell? ⟨b2, o2 + k * 2 + 1, none⟩ = some (.int .i64 (pl ps k))) (go_keep) (fail)
          go_wp2
          go_roundw
          case rel => exact ⟨k + 1, q + 1, by omega, by go_num, by rw [HWD.out]; rfl⟩
          case measure => simp [intOf]; omega
        · obtain rfl : k = m := by omega
          go_wp2
          go_ret
          exact ⟨rfl, below_drewN HB4.out q⟩
end Go.Proofs.YtlchagphjmfooaaDoor
