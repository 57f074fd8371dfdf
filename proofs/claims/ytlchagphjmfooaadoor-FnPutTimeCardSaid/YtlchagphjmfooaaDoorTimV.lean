/- FnTimesAreRead. -/
import Derived.Test.YtlchagphjmfooaaDoorTimU
import Derived.Test.YtlchagphjmfooaaDoorBelow
namespace Go.Proofs.YtlchagphjmfooaaDoor
open Go.RowKit Go.PlainAid
set_option linter.unusedVariables false

theorem keep_set {w : World} {g h i j : Nat} {u : Value} (hgh : g ≠ h) : (w.setCell ⟨h, i, none⟩ u).cell? ⟨g, j, none⟩ = w.cell? ⟨g, j, none⟩ :=
  World.cell?_setCell_other w _ _ u (fun e => hgh (by injection e with e1 _ _ <;> exact e1.symm))
set_option maxRecDepth 20000 in
set_option maxHeartbeats 3200000 in
theorem fnTimes_of {a a1 a2 : Addr} (x y z S N1 n : Int) (w : World) (hz1 : -9223372036854775808 ≤ z) (hz2 : z ≤ 9223372036854775807) (hS : x.tmod 100000000000000000 = S) (hS1 : -100000000000000000 ≤ S) (hS2 : S ≤ 100000000000000000)
    (hN : y.tmod 1000000000 = N1) (hn : (0 ≤ N1 ∧ n = N1) ∨ (N1 < 0 ∧ n = -N1)) (hn9 : n < 1000000000)
    (hE : Err w.heap.size w 0 a) (hE1 : Err w.heap.size w 6 a1) (hE2 : Err w.heap.size w 7 a2) :
    Calls Tryd.prog 6 #[.int .i64 x, .int .i64 y, .int .i64 z] w fun e w' => e = .returned (.bool true) ∧ Below w.heap.size w w' := by
  obtain ⟨k, hk⟩ : ∃ k : Nat, z % 40 = (k : Int) := ⟨(z % 40).toNat, by omega⟩
  have hk40 : k ≤ 40 := by omega
  obtain ⟨b, W, N, g1, g2, g3, g4, HP⟩ := specPutT S n k hS1 hS2 (by omega) hn9 hk40
  have u1 : IntKind.i64.wrap S = S := IntWalk.i64_in _ (by omega)
  have u2 : IntKind.i64.wrap N1 = N1 := IntWalk.i64_in _ (by omega)
  have HP2 := fun w => Lib.hid (HP w)
  have HE := Lib.hid hE
  have HE1 := Lib.hid hE1
  have HE2 := Lib.hid hE2
  have HG1 := Lib.hid g1
  have HG2 := Lib.hid g2
  have HBl := fun w => Lib.hid (below_any z 40 w hz1 hz2 (by decide) (by decide))
  have HK := Lib.hid hk
  clear hE hE1 hE2 g1 g2 HP hk
  have b0 : ∀ o, (((w.alloc (.cells #[.int .i64 S, .int .i64 n] 33)).alloc o).drew).cell? ⟨w.heap.size, 0, none⟩ = some (.int .i64 S) := fun o => ((((two_blk0 w 33 (.int .i64 S) (.int .i64 n)).alloc o).drewN 1).cell 0).trans rfl
  have b1 : ∀ o, (((w.alloc (.cells #[.int .i64 S, .int .i64 n] 33)).alloc o).drew).cell? ⟨w.heap.size, 1, none⟩ = some (.int .i64 n) := fun o => ((((two_blk0 w 33 (.int .i64 S) (.int .i64 n)).alloc o).drewN 1).cell 1).trans rfl
  have HB01 : Hid (Below w.heap.size w (((w.alloc (.cells #[.int .i64 S, .int .i64 n] 33)).alloc (.cells #[.int .i64 0, .int .i64 0] 36)).drew)) := Lib.hid ((((Below.refl _ w).alloc (Nat.le_refl _) _).alloc ((Below.refl _ w).alloc (Nat.le_refl _) _).size _).drew)
  have HZ01 : Hid (Blk (((w.alloc (.cells #[.int .i64 S, .int .i64 n] 33)).alloc (.cells #[.int .i64 0, .int .i64 0] 36)).drewN 1) (w.heap.size + 1) 36 [.int .i64 0, .int .i64 0]) := Lib.hid (by
    have h := two_blk0 (w.alloc (.cells #[.int .i64 S, .int .i64 n] 33)) 36 (.int .i64 0) (.int .i64 0)
    rw [World.size_alloc] at h
    exact h.drewN 1)
  have HB00 : Hid (Below w.heap.size w ((w.alloc (.cells #[.int .i64 S, .int .i64 n] 33)).drew)) := Lib.hid (((Below.refl _ w).alloc (Nat.le_refl _) _).drew)
  rcases hn with ⟨n1, rfl⟩ | ⟨n1, rfl⟩
  · have n2 : ¬ n < 0 := by omega
    go_enter Tryd.func6, Tryd.ntmps6
    go_wp2_with fail
    go_region_held3 (fun w' => w'.cell? ⟨w.heap.size, 0, none⟩ = some (.int .i64 S) ∧ w'.cell? ⟨w.heap.size, 1, none⟩ = some (.int .i64 n)) (first
      | exact ⟨d0, d1⟩
      | exact ⟨c0, c1⟩
      | exact ⟨(World.cell?_alloc_lt _ _ _ d2).trans d0, (World.cell?_alloc_lt _ _ _ d2).trans d1⟩
      | exact ⟨(World.cell?_alloc_lt _ _ _ c2).trans c0, (World.cell?_alloc_lt _ _ _ c2).trans c1⟩
      | exact ⟨b0 _, b1 _⟩
      | exact ⟨(keep_set zne).trans ((keep_set zne).trans d0), (keep_set zne).trans ((keep_set zne).trans d1)⟩
      | (refine ⟨?_, ?_⟩ <;> (simp [go_sem]; done))) (first
      | (go_at_call 21; refine (HBl _).out.mono ?_; rintro e w2 ⟨rfl, rfl⟩; rw [HK.out])
      | (go_at_call 20; refine (HP2 _).out.mono ?_; rintro e w2 ⟨⟨T, P, hT, hP, hTs, rfl⟩, hb2⟩
         have HB2 : Hid (Below w.heap.size w w2) := Lib.hid (by first | exact HB00.out.trans (hb2.mono HB00.out.size) | exact HB01.out.trans (hb2.mono HB01.out.size))
         have HK2 : Hid (Blk w2 w.heap.size 33 [.int .i64 S, .int .i64 n]) := Lib.hid (by first | exact ((two_blk0 w _ _ _).drewN 1).below hb2 ((two_blk0 w 33 (.int .i64 S) (.int .i64 n)).drewN 1).lt | exact (((two_blk0 w _ _ _).alloc _).drewN 1).below hb2 (((two_blk0 w 33 (.int .i64 S) (.int .i64 n)).alloc (.cells #[.int .i64 0, .int .i64 0] 36)).drewN 1).lt)
         (first | (have HZ2 : Hid (Blk w2 (w.heap.size + 1) 36 [.int .i64 0, .int .i64 0]) := Lib.hid (HZ01.out.below hb2 HZ01.out.lt)) | skip)
         have c0 : w2.cell? ⟨w.heap.size, 0, none⟩ = some (.int .i64 S) := by rw [HK2.out.cell]; rfl
         have c1 : w2.cell? ⟨w.heap.size, 1, none⟩ = some (.int .i64 n) := by rw [HK2.out.cell]; rfl
         have c2 := HK2.out.lt
         have HT := Lib.hid hT
         have HTM : Hid (timP (cutH 46 T) (cutT 46 T) = some (S, n)) := Lib.hid (by rw [HG1.out, HG2.out]; exact hT.timP (by omega))
         clear hb2 hT)
      | (go_at_call 19; refine (implTim T (cutH 46 T) (cutT 46 T) _ (by omega) (cutH_le _ _) (cutT_le _ _) (Lib.hid (cutV_eq 46 T)) (HE.out.more (by first | exact HB2.out | exact HB2.out.alloc HB2.out.size _)) (HE1.out.more (by first | exact HB2.out | exact HB2.out.alloc HB2.out.size _)) (HE2.out.more (by first | exact HB2.out | exact HB2.out.alloc HB2.out.size _))).mono ?_; rw [HTM.out]; unfold ITim; rintro e w3 ⟨rfl, hb3⟩
         have HB3 : Hid (Below w.heap.size w w3) := Lib.hid (by first | exact HB2.out.trans (hb3.mono HB2.out.size) | exact (HB2.out.alloc HB2.out.size _).trans (hb3.mono (HB2.out.alloc HB2.out.size _).size))
         have HK3 : Hid (Blk w3 w.heap.size 33 [.int .i64 S, .int .i64 n]) := Lib.hid (by first | exact HK2.out.below hb3 HK2.out.lt | exact (HK2.out.alloc _).below hb3 (HK2.out.alloc _).lt)
         have d0 : w3.cell? ⟨w.heap.size, 0, none⟩ = some (.int .i64 S) := by rw [HK3.out.cell]; rfl
         have d1 : w3.cell? ⟨w.heap.size, 1, none⟩ = some (.int .i64 n) := by rw [HK3.out.cell]; rfl
         have d2 := HK3.out.lt
         have d3 := Nat.ne_of_lt d2
         (first
         | (have HZ3 : Hid (Blk w3 (w.heap.size + 1) 36 [.int .i64 0, .int .i64 0]) := Lib.hid (HZ2.out.below hb3 HZ2.out.lt)
            have z0 : w3.cell? ⟨w.heap.size + 1, 0, none⟩ = some (.int .i64 0) := by rw [HZ3.out.cell]; rfl
            have z1 : w3.cell? ⟨w.heap.size + 1, 1, none⟩ = some (.int .i64 0) := by rw [HZ3.out.cell]; rfl
            have zf0 := HZ3.out.frozen 0
            have zf1 := HZ3.out.frozen 1
            have zne : w.heap.size ≠ w.heap.size + 1 := by omega)
         | (have HZ3 : Hid (Blk w3 w2.heap.size 36 [.int .i64 0, .int .i64 0]) := Lib.hid ((two_blk0 w2 _ _ _).below hb3 (two_blk0 w2 36 (.int .i64 0) (.int .i64 0)).lt)
            have z0 : w3.cell? ⟨w2.heap.size, 0, none⟩ = some (.int .i64 0) := by rw [HZ3.out.cell]; rfl
            have z1 : w3.cell? ⟨w2.heap.size, 1, none⟩ = some (.int .i64 0) := by rw [HZ3.out.cell]; rfl
            have zf0 := HZ3.out.frozen 0
            have zf1 := HZ3.out.frozen 1
            have zne : w.heap.size ≠ w2.heap.size := Nat.ne_of_lt c2)
         | skip)
         clear hb3))
    all_goals go_wp2
    all_goals go_ret
    all_goals first
      | exact ⟨rfl, HB3.out.alloc HB3.out.size _⟩
      | exact ⟨rfl, (HB3.out.setCell (Nat.le_of_lt c2) _).setCell (Nat.le_of_lt c2) _⟩
      | exact ⟨rfl, (HB3.out.setCell (Nat.le_succ _) _).setCell (Nat.le_succ _) _⟩
  · obtain ⟨n, hn⟩ : ∃ n, -N1 = n := ⟨_, rfl⟩
    rw [hn] at hn9 HP2 HG2 HB01 HZ01 b0 b1 HB00
    have u3 : IntKind.i64.wrap (-N1) = n := by rw [hn]; exact IntWalk.i64_in _ (by omega)
    clear hn
    go_enter Tryd.func6, Tryd.ntmps6
    go_wp2_with fail
    go_region_held3 (fun w' => w'.cell? ⟨w.heap.size, 0, none⟩ = some (.int .i64 S) ∧ w'.cell? ⟨w.heap.size, 1, none⟩ = some (.int .i64 n)) (first
      | exact ⟨d0, d1⟩
      | exact ⟨c0, c1⟩
      | exact ⟨(World.cell?_alloc_lt _ _ _ d2).trans d0, (World.cell?_alloc_lt _ _ _ d2).trans d1⟩
      | exact ⟨(World.cell?_alloc_lt _ _ _ c2).trans c0, (World.cell?_alloc_lt _ _ _ c2).trans c1⟩
      | exact ⟨b0 _, b1 _⟩
      | exact ⟨(keep_set zne).trans ((keep_set zne).trans d0), (keep_set zne).trans ((keep_set zne).trans d1)⟩
      | (refine ⟨?_, ?_⟩ <;> (simp [go_sem]; done))) (first
      | (go_at_call 21; refine (HBl _).out.mono ?_; rintro e w2 ⟨rfl, rfl⟩; rw [HK.out])
      | (go_at_call 20; refine (HP2 _).out.mono ?_; rintro e w2 ⟨⟨T, P, hT, hP, hTs, rfl⟩, hb2⟩
         have HB2 : Hid (Below w.heap.size w w2) := Lib.hid (by first | exact HB00.out.trans (hb2.mono HB00.out.size) | exact HB01.out.trans (hb2.mono HB01.out.size))
         have HK2 : Hid (Blk w2 w.heap.size 33 [.int .i64 S, .int .i64 n]) := Lib.hid (by first | exact ((two_blk0 w _ _ _).drewN 1).below hb2 ((two_blk0 w 33 (.int .i64 S) (.int .i64 n)).drewN 1).lt | exact (((two_blk0 w _ _ _).alloc _).drewN 1).below hb2 (((two_blk0 w 33 (.int .i64 S) (.int .i64 n)).alloc (.cells #[.int .i64 0, .int .i64 0] 36)).drewN 1).lt)
         (first | (have HZ2 : Hid (Blk w2 (w.heap.size + 1) 36 [.int .i64 0, .int .i64 0]) := Lib.hid (HZ01.out.below hb2 HZ01.out.lt)) | skip)
         have c0 : w2.cell? ⟨w.heap.size, 0, none⟩ = some (.int .i64 S) := by rw [HK2.out.cell]; rfl
         have c1 : w2.cell? ⟨w.heap.size, 1, none⟩ = some (.int .i64 n) := by rw [HK2.out.cell]; rfl
         have c2 := HK2.out.lt
         have HT := Lib.hid hT
         have HTM : Hid (timP (cutH 46 T) (cutT 46 T) = some (S, n)) := Lib.hid (by rw [HG1.out, HG2.out]; exact hT.timP (by omega))
         clear hb2 hT)
      | (go_at_call 19; refine (implTim T (cutH 46 T) (cutT 46 T) _ (by omega) (cutH_le _ _) (cutT_le _ _) (Lib.hid (cutV_eq 46 T)) (HE.out.more (by first | exact HB2.out | exact HB2.out.alloc HB2.out.size _)) (HE1.out.more (by first | exact HB2.out | exact HB2.out.alloc HB2.out.size _)) (HE2.out.more (by first | exact HB2.out | exact HB2.out.alloc HB2.out.size _))).mono ?_; rw [HTM.out]; unfold ITim; rintro e w3 ⟨rfl, hb3⟩
         have HB3 : Hid (Below w.heap.size w w3) := Lib.hid (by first | exact HB2.out.trans (hb3.mono HB2.out.size) | exact (HB2.out.alloc HB2.out.size _).trans (hb3.mono (HB2.out.alloc HB2.out.size _).size))
         have HK3 : Hid (Blk w3 w.heap.size 33 [.int .i64 S, .int .i64 n]) := Lib.hid (by first | exact HK2.out.below hb3 HK2.out.lt | exact (HK2.out.alloc _).below hb3 (HK2.out.alloc _).lt)
         have d0 : w3.cell? ⟨w.heap.size, 0, none⟩ = some (.int .i64 S) := by rw [HK3.out.cell]; rfl
         have d1 : w3.cell? ⟨w.heap.size, 1, none⟩ = some (.int .i64 n) := by rw [HK3.out.cell]; rfl
         have d2 := HK3.out.lt
         have d3 := Nat.ne_of_lt d2
         (first
         | (have HZ3 : Hid (Blk w3 (w.heap.size + 1) 36 [.int .i64 0, .int .i64 0]) := Lib.hid (HZ2.out.below hb3 HZ2.out.lt)
            have z0 : w3.cell? ⟨w.heap.size + 1, 0, none⟩ = some (.int .i64 0) := by rw [HZ3.out.cell]; rfl
            have z1 : w3.cell? ⟨w.heap.size + 1, 1, none⟩ = some (.int .i64 0) := by rw [HZ3.out.cell]; rfl
            have zf0 := HZ3.out.frozen 0
            have zf1 := HZ3.out.frozen 1
            have zne : w.heap.size ≠ w.heap.size + 1 := by omega)
         | (have HZ3 : Hid (Blk w3 w2.heap.size 36 [.int .i64 0, .int .i64 0]) := Lib.hid ((two_blk0 w2 _ _ _).below hb3 (two_blk0 w2 36 (.int .i64 0) (.int .i64 0)).lt)
            have z0 : w3.cell? ⟨w2.heap.size, 0, none⟩ = some (.int .i64 0) := by rw [HZ3.out.cell]; rfl
            have z1 : w3.cell? ⟨w2.heap.size, 1, none⟩ = some (.int .i64 0) := by rw [HZ3.out.cell]; rfl
            have zf0 := HZ3.out.frozen 0
            have zf1 := HZ3.out.frozen 1
            have zne : w.heap.size ≠ w2.heap.size := Nat.ne_of_lt c2)
         | skip)
         clear hb3))
    all_goals go_wp2
    all_goals go_ret
    all_goals first
      | exact ⟨rfl, HB3.out.alloc HB3.out.size _⟩
      | exact ⟨rfl, (HB3.out.setCell (Nat.le_of_lt c2) _).setCell (Nat.le_of_lt c2) _⟩
      | exact ⟨rfl, (HB3.out.setCell (Nat.le_succ _) _).setCell (Nat.le_succ _) _⟩
theorem tmod_small (x m : Int) (hm : 0 < m) : -m < x.tmod m ∧ x.tmod m < m := by
  by_cases h : 0 ≤ x
  · rw [Int.tmod_eq_emod_of_nonneg h]
    have := Int.emod_nonneg x (show m ≠ 0 by omega)
    have := Int.emod_lt_of_pos x hm
    omega
  · have := tmod_neg_fix x m hm (by omega)
    have h1 := Int.emod_nonneg x (show m ≠ 0 by omega)
    have h2 := Int.emod_lt_of_pos x hm
    rw [this]
    split <;> omega
theorem fnTimes_walk {a a1 a2 : Addr} (x y z : Int) (w : World) (hz1 : -9223372036854775808 ≤ z) (hz2 : z ≤ 9223372036854775807)
    (hE : Err w.heap.size w 0 a) (hE1 : Err w.heap.size w 6 a1) (hE2 : Err w.heap.size w 7 a2) :
    Calls Tryd.prog 6 #[.int .i64 x, .int .i64 y, .int .i64 z] w fun e w' => e = .returned (.bool true) ∧ Below w.heap.size w w' := by
  have h1 := tmod_small x 100000000000000000 (by decide)
  have h2 := tmod_small y 1000000000 (by decide)
  by_cases hn : 0 ≤ y.tmod 1000000000
  · exact fnTimes_of x y z _ _ _ w hz1 hz2 rfl (by omega) (by omega) rfl (.inl ⟨hn, rfl⟩) (by omega) hE hE1 hE2
  · exact fnTimes_of x y z _ _ _ w hz1 hz2 rfl (by omega) (by omega) rfl (.inr ⟨by omega, rfl⟩) (by omega) hE hE1 hE2
end Go.Proofs.YtlchagphjmfooaaDoor
