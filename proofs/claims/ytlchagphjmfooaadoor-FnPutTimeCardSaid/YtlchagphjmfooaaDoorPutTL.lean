/- FnPutTime. -/
import Derived.Test.YtlchagphjmfooaaDoorPutT
import Derived.Test.YtlchagphjmfooaaDoorTimV
namespace Go.Proofs.YtlchagphjmfooaaDoor
open Go.RowKit Go.PlainAid
set_option linter.unusedVariables false

set_option maxRecDepth 20000 in
set_option maxHeartbeats 3200000 in
theorem fnPutT_of {a a1 a2 : Addr} (x y S N1 n : Int) (w : World) (hS : x.tmod 100000000000000000 = S) (hS1 : -100000000000000000 ≤ S) (hS2 : S ≤ 100000000000000000)
    (hN : y.tmod 1000000000 = N1) (hn : (0 ≤ N1 ∧ n = N1) ∨ (N1 < 0 ∧ n = -N1)) (hn9 : n < 1000000000)
    (hE : Err w.heap.size w 0 a) (hE1 : Err w.heap.size w 6 a1) (hE2 : Err w.heap.size w 7 a2) (hT : Tab w) :
    Calls Tryd.prog 9 #[.int .i64 x, .int .i64 y] w fun e w' => e = .returned (.bool true) ∧ Below w.heap.size w w' := by
  obtain ⟨b, W, N, g1, g2, g3, g4, HP⟩ := implPutT S n hS1 hS2 (by omega) hn9
  have u1 : IntKind.i64.wrap S = S := IntWalk.i64_in _ (by omega)
  have u2 : IntKind.i64.wrap N1 = N1 := IntWalk.i64_in _ (by omega)
  have HB0 : Hid (Below w.heap.size w (w.alloc (.cells #[.int .i64 S, .int .i64 n] 36))) := Lib.hid ((Below.refl _ w).alloc (Nat.le_refl _) _)
  have HP2 := Lib.hid (HP _ (tab_below hT HB0.out))
  have HE := Lib.hid hE
  have HE1 := Lib.hid hE1
  have HE2 := Lib.hid hE2
  have HG1 := Lib.hid g1
  have HG2 := Lib.hid g2
  clear hE hE1 hE2 g1 g2 HP hT
  rcases hn with ⟨n1, rfl⟩ | ⟨n1, hn2⟩
  · have n2 : ¬ n < 0 := by omega
    go_enter Tryd.func9, Tryd.ntmps9
    go_wp2_with fail
    refine HP2.out.mono ?_
    rintro e w2 ⟨⟨T, P, hT, hP, hTs, rfl⟩, hb2⟩
    have HB2 : Hid (Below w.heap.size w w2) := Lib.hid (HB0.out.trans (hb2.mono HB0.out.size))
    have HK2 : Hid (Blk w2 w.heap.size 36 [.int .i64 S, .int .i64 n]) := Lib.hid ((two_blk0 w _ _ _).below hb2 (two_blk0 w 36 (.int .i64 S) (.int .i64 n)).lt)
    have HTM : Hid (timP (cutH 46 T) (cutT 46 T) = some (S, n)) := Lib.hid (by rw [HG1.out, HG2.out]; exact hT.timP (by omega))
    have HTS : Hid (∀ w, Calls Tryd.prog 18 #[.string T] w (STim S n 1 w)) := Lib.hid (fun w => by rw [HG1.out, HG2.out]; exact hT.spec g3 (by omega) hP w)
    clear hb2 hT
    go_wp2_with fail
    refine (HTS.out _).mono ?_
    unfold STim
    rintro e w3 ⟨rfl, hb3⟩
    have HB3 : Hid (Below w.heap.size w w3) := Lib.hid (HB2.out.trans (hb3.mono HB2.out.size))
    have HK3 : Hid (Blk w3 w.heap.size 36 [.int .i64 S, .int .i64 n]) := Lib.hid (HK2.out.below hb3 HK2.out.lt)
    clear hb3
    go_wp2_with fail
    refine (implTim T (cutH 46 T) (cutT 46 T) _ (by omega) (cutH_le _ _) (cutT_le _ _) (Lib.hid (cutV_eq 46 T)) (HE.out.more (HB3.out.alloc HB3.out.size _)) (HE1.out.more (HB3.out.alloc HB3.out.size _)) (HE2.out.more (HB3.out.alloc HB3.out.size _))).mono ?_
    rw [HTM.out]
    unfold ITim
    rintro e w4 ⟨rfl, hb4⟩
    have HB4 : Hid (Below w.heap.size w w4) := Lib.hid ((HB3.out.alloc HB3.out.size _).trans (hb4.mono (HB3.out.alloc HB3.out.size _).size))
    have HK4 : Hid (Blk w4 w.heap.size 36 [.int .i64 S, .int .i64 n]) := Lib.hid ((HK3.out.alloc _).below hb4 (HK3.out.alloc _).lt)
    have HZ4 : Hid (Blk w4 w3.heap.size 33 [.int .i64 S, .int .i64 n]) := Lib.hid ((two_blk0 w3 _ _ _).below hb4 (two_blk0 w3 33 (.int .i64 S) (.int .i64 n)).lt)
    have q0 : w4.cell? ⟨w.heap.size, 0, none⟩ = some (.int .i64 S) := by rw [HK4.out.cell]; rfl
    have q1 : w4.cell? ⟨w.heap.size, 1, none⟩ = some (.int .i64 n) := by rw [HK4.out.cell]; rfl
    have q2 := HK4.out.lt
    have q3 := Nat.ne_of_lt q2
    have z0 : w4.cell? ⟨w3.heap.size, 0, none⟩ = some (.int .i64 S) := by rw [HZ4.out.cell]; rfl
    have z1 : w4.cell? ⟨w3.heap.size, 1, none⟩ = some (.int .i64 n) := by rw [HZ4.out.cell]; rfl
    have z2 := HZ4.out.lt
    have z3 := Nat.ne_of_lt z2
    clear hb4
    go_wp2_with fail
    go_ret
    exact ⟨rfl, HB4.out.alloc HB4.out.size _⟩
  · have u3 : IntKind.i64.wrap (-N1) = n := by rw [← hn2]; exact IntWalk.i64_in _ (by omega)
    clear hn2
    go_enter Tryd.func9, Tryd.ntmps9
    go_wp2_with fail
    refine HP2.out.mono ?_
    rintro e w2 ⟨⟨T, P, hT, hP, hTs, rfl⟩, hb2⟩
    have HB2 : Hid (Below w.heap.size w w2) := Lib.hid (HB0.out.trans (hb2.mono HB0.out.size))
    have HK2 : Hid (Blk w2 w.heap.size 36 [.int .i64 S, .int .i64 n]) := Lib.hid ((two_blk0 w _ _ _).below hb2 (two_blk0 w 36 (.int .i64 S) (.int .i64 n)).lt)
    have HTM : Hid (timP (cutH 46 T) (cutT 46 T) = some (S, n)) := Lib.hid (by rw [HG1.out, HG2.out]; exact hT.timP (by omega))
    have HTS : Hid (∀ w, Calls Tryd.prog 18 #[.string T] w (STim S n 1 w)) := Lib.hid (fun w => by rw [HG1.out, HG2.out]; exact hT.spec g3 (by omega) hP w)
    clear hb2 hT
    go_wp2_with fail
    refine (HTS.out _).mono ?_
    unfold STim
    rintro e w3 ⟨rfl, hb3⟩
    have HB3 : Hid (Below w.heap.size w w3) := Lib.hid (HB2.out.trans (hb3.mono HB2.out.size))
    have HK3 : Hid (Blk w3 w.heap.size 36 [.int .i64 S, .int .i64 n]) := Lib.hid (HK2.out.below hb3 HK2.out.lt)
    clear hb3
    go_wp2_with fail
    refine (implTim T (cutH 46 T) (cutT 46 T) _ (by omega) (cutH_le _ _) (cutT_le _ _) (Lib.hid (cutV_eq 46 T)) (HE.out.more (HB3.out.alloc HB3.out.size _)) (HE1.out.more (HB3.out.alloc HB3.out.size _)) (HE2.out.more (HB3.out.alloc HB3.out.size _))).mono ?_
    rw [HTM.out]
    unfold ITim
    rintro e w4 ⟨rfl, hb4⟩
    have HB4 : Hid (Below w.heap.size w w4) := Lib.hid ((HB3.out.alloc HB3.out.size _).trans (hb4.mono (HB3.out.alloc HB3.out.size _).size))
    have HK4 : Hid (Blk w4 w.heap.size 36 [.int .i64 S, .int .i64 n]) := Lib.hid ((HK3.out.alloc _).below hb4 (HK3.out.alloc _).lt)
    have HZ4 : Hid (Blk w4 w3.heap.size 33 [.int .i64 S, .int .i64 n]) := Lib.hid ((two_blk0 w3 _ _ _).below hb4 (two_blk0 w3 33 (.int .i64 S) (.int .i64 n)).lt)
    have q0 : w4.cell? ⟨w.heap.size, 0, none⟩ = some (.int .i64 S) := by rw [HK4.out.cell]; rfl
    have q1 : w4.cell? ⟨w.heap.size, 1, none⟩ = some (.int .i64 n) := by rw [HK4.out.cell]; rfl
    have q2 := HK4.out.lt
    have q3 := Nat.ne_of_lt q2
    have z0 : w4.cell? ⟨w3.heap.size, 0, none⟩ = some (.int .i64 S) := by rw [HZ4.out.cell]; rfl
    have z1 : w4.cell? ⟨w3.heap.size, 1, none⟩ = some (.int .i64 n) := by rw [HZ4.out.cell]; rfl
    have z2 := HZ4.out.lt
    have z3 := Nat.ne_of_lt z2
    clear hb4
    go_wp2_with fail
    go_ret
    exact ⟨rfl, HB4.out.alloc HB4.out.size _⟩
theorem fnPutT_walk {a a1 a2 : Addr} (x y : Int) (w : World)
    (hE : Err w.heap.size w 0 a) (hE1 : Err w.heap.size w 6 a1) (hE2 : Err w.heap.size w 7 a2) (hT : Tab w) :
    Calls Tryd.prog 9 #[.int .i64 x, .int .i64 y] w fun e w' => e = .returned (.bool true) ∧ Below w.heap.size w w' := by
  have h1 := tmod_small x 100000000000000000 (by decide)
  have h2 := tmod_small y 1000000000 (by decide)
  by_cases hn : 0 ≤ y.tmod 1000000000
  · exact fnPutT_of x y _ _ _ w rfl (by omega) (by omega) rfl (.inl ⟨hn, rfl⟩) (by omega) hE hE1 hE2 hT
  · exact fnPutT_of x y _ _ _ w rfl (by omega) (by omega) rfl (.inr ⟨by omega, rfl⟩) (by omega) hE hE1 hE2 hT
end Go.Proofs.YtlchagphjmfooaaDoor
