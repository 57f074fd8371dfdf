/- ZZPutNumber and impl.PutNumber. -/
import Derived.Test.YtagjbndcbcepcaaDoorPOc
import Derived.Test.YtagjbndcbcepcaaDoorFNu
namespace Go.Proofs.YtagjbndcbcepcaaDoor
open Go.RowKit Go.PlainAid
set_option linter.unusedVariables false

set_option maxRecDepth 20000 in
set_option maxHeartbeats 800000 in
theorem zzPutNumberOct (m N : Nat) (z : Int) (w : World) (hz : z = (m : Int) + 1) (hm : 1 ≤ m) (hm2 : m ≤ 21) (hN : N < 8 ^ m) (hN2 : N < 9223372036854775808) (hT : Tz8 w) :
    Calls Tryd.prog 28 #[.int .i64 z, .int .i64 (N : Int)] w (PutR m (od m (N : Int) ++ [0]) w) := by
  subst hz
  have hzf := zero_formatter
  have HF0 := Lib.hid (Blk.new w 44 [.nilIface])
  have HBE0 := Lib.hid ((Below.refl w.heap.size w).alloc (Nat.le_refl _) (.cells #[.nilIface] 44))
  have HNN := Lib.hid (And.intro hN hN2)
  have HT := Lib.hid hT
  clear hN hN2 hT
  go_enter Tryd.func28, Tryd.ntmps28
  go_wp2_with (refine wpList_make_blk _ (o := ⟨some 9, _, _, _, _, _⟩) rfl _ _ _ rfl 5 _ 1 Tryd.underlying22 u8info rfl _ _ ((m : Int) + 1) ((m : Int) + 1) (m + 1) rfl rfl (by rw [Int.natCast_add]; rfl) (by rw [Int.natCast_add]; rfl) (by omega) (by omega) ?_)
  intro w1 hb1 hg1 hz1
  rw [← bys_zbs] at hb1
  have hz2 : (w.alloc (.cells #[.nilIface] 44)).heap.size = w.heap.size + 1 := by simp
  have HB1 := Lib.hid hb1.out
  have HF1 := Lib.hid (HF0.out.grown hg1 (by simp))
  have HBE1 := Lib.hid (HBE0.out.trans (grownBy_below hg1 (by omega) (fun g h => by cases h)))
  clear hb1 hg1 hz1 hz2
  go_wp2_with fail
  refine (formatNumeric_oct w.heap.size (w.heap.size + 1) m w.heap.size N w1 HF1.out HB1.out (by omega) (by omega) HBE1.out.size (by omega) hm hm2 HNN.out.1 HNN.out.2 (HT.out.below HBE1.out (Nat.le_refl _))).mono ?_
  rintro e w2 ⟨rfl, h1, h2, h3⟩
  have HB2 := Lib.hid h2
  have HBE2 := Lib.hid (HBE1.out.trans h3)
  have hc : w2.cell? ⟨w.heap.size, 0, none⟩ = some .nilIface := by rw [h1.cell]; rfl
  clear h1 h2 h3
  obtain ⟨F, hF⟩ : ∃ F, F = w.heap.size := ⟨_, rfl⟩
  obtain ⟨G, hG⟩ : ∃ G, G = w.heap.size + 1 := ⟨_, rfl⟩
  have HG0 : Hid (w.heap.size ≤ G) := by show _ ≤ _; omega
  rw [← hF] at hc
  rw [← hG] at HB2
  rw [← hG, ← hF]
  clear hF hG
  go_wp2
  go_region_held3 (fun w' => w'.cell? ⟨F, 0, none⟩ = some .nilIface) (go_keep) (fail)
  go_wp2
  go_ret2
  exact ⟨G, HG0.out, rfl, HB2.out, HBE2.out.drew⟩

set_option maxRecDepth 20000 in
set_option maxHeartbeats 800000 in
theorem zzPutNumberBin (s : Nat) (z n : Int) (w : World) (hz : z = (s : Int) + 1 + 1) (hs : s ≤ 20) (ho : fitsO (s + 1) n = false) (hb : fitsB (s + 1) n = true) (h1 : -9223372036854775808 ≤ n) (h2 : n ≤ 9223372036854775807) :
    Calls Tryd.prog 28 #[.int .i64 z, .int .i64 n] w (PutR (s + 1) (fieldB (s + 1) n) w) := by
  subst hz
  have hzf := zero_formatter
  have HF0 := Lib.hid (Blk.new w 44 [.nilIface])
  have HBE0 := Lib.hid ((Below.refl w.heap.size w).alloc (Nat.le_refl _) (.cells #[.nilIface] 44))
  have HNN := Lib.hid (And.intro ho hb)
  clear ho hb
  go_enter Tryd.func28, Tryd.ntmps28
  go_wp2_with (refine wpList_make_blk _ (o := ⟨some 9, _, _, _, _, _⟩) rfl _ _ _ rfl 5 _ 1 Tryd.underlying22 u8info rfl _ _ ((s : Int) + 1 + 1) ((s : Int) + 1 + 1) (s + 1 + 1) rfl rfl (by omega) (by omega) (by omega) (by omega) ?_)
  intro w1 hb1 hg1 hz1
  rw [← bys_zbs] at hb1
  have hz2 : (w.alloc (.cells #[.nilIface] 44)).heap.size = w.heap.size + 1 := by simp
  have HB1 := Lib.hid hb1.out
  have HF1 := Lib.hid (HF0.out.grown hg1 (by simp))
  have HBE1 := Lib.hid (HBE0.out.trans (grownBy_below hg1 (by omega) (fun g h => by cases h)))
  clear hb1 hg1 hz1 hz2
  go_wp2_with fail
  refine (formatNumeric_bin w.heap.size (w.heap.size + 1) s w.heap.size n .nilIface w1 HF1.out HB1.out (by omega) (by omega) (by omega) hs HNN.out.1 HNN.out.2 h1 h2).mono ?_
  rintro e w2 ⟨rfl, g1, g2, g3⟩
  have HB2 := Lib.hid g2
  have HBE2 := Lib.hid (HBE1.out.trans g3)
  have hc : w2.cell? ⟨w.heap.size, 0, none⟩ = some .nilIface := by rw [g1.cell]; rfl
  clear g1 g2 g3
  obtain ⟨F, hF⟩ : ∃ F, F = w.heap.size := ⟨_, rfl⟩
  obtain ⟨G, hG⟩ : ∃ G, G = w.heap.size + 1 := ⟨_, rfl⟩
  have HG0 : Hid (w.heap.size ≤ G) := by show _ ≤ _; omega
  rw [← hF] at hc
  rw [← hG] at HB2
  rw [← hG, ← hF]
  clear hF hG
  go_wp2
  go_region_held3 (fun w' => w'.cell? ⟨F, 0, none⟩ = some .nilIface) (go_keep) (fail)
  go_wp2
  go_ret2
  exact ⟨G, HG0.out, rfl, HB2.out, HBE2.out.drew⟩

set_option maxRecDepth 20000 in
set_option maxHeartbeats 800000 in
theorem zzPutNumberNo (s : Nat) (z n : Int) (w : World) (hz : z = (s : Int) + 1 + 1) (hs : s ≤ 20) (hn : fitsO (s + 1) n = false) (hb : fitsB (s + 1) n = false) (h1 : -9223372036854775808 ≤ n) (h2 : n ≤ 9223372036854775807) (hT : Tz8 w)
    {a : Addr} (hE : Err w.heap.size w 1 a) :
    Calls Tryd.prog 28 #[.int .i64 z, .int .i64 n] w (PutX (s + 1) w) := by
  subst hz
  have hzf := zero_formatter
  have HF0 := Lib.hid (Blk.new w 44 [.nilIface])
  have HBE0 := Lib.hid ((Below.refl w.heap.size w).alloc (Nat.le_refl _) (.cells #[.nilIface] 44))
  have HN := Lib.hid (And.intro hn hb)
  have HT := Lib.hid hT
  have HE := Lib.hid hE
  clear hn hb hT hE
  go_enter Tryd.func28, Tryd.ntmps28
  go_wp2_with (refine wpList_make_blk _ (o := ⟨some 9, _, _, _, _, _⟩) rfl _ _ _ rfl 5 _ 1 Tryd.underlying22 u8info rfl _ _ ((s : Int) + 1 + 1) ((s : Int) + 1 + 1) (s + 1 + 1) rfl rfl (by omega) (by omega) (by omega) (by omega) ?_)
  intro w1 hb1 hg1 hz1
  rw [← bys_zbs] at hb1
  have hz2 : (w.alloc (.cells #[.nilIface] 44)).heap.size = w.heap.size + 1 := by simp
  have HB1 := Lib.hid hb1.out
  have HF1 := Lib.hid (HF0.out.grown hg1 (by simp))
  have HBE1 := Lib.hid (HBE0.out.trans (grownBy_below hg1 (by omega) (fun g h => by cases h)))
  clear hb1 hg1 hz1 hz2
  go_wp2_with fail
  refine (formatNumeric_no w.heap.size (w.heap.size + 1) s w.heap.size n w1 HF1.out HB1.out (by omega) (by omega) HBE1.out.size (by omega) hs HN.out.1 HN.out.2 h1 h2 (HT.out.below HBE1.out (Nat.le_refl _)) (HE.out.below HBE1.out (Nat.le_refl _))).mono ?_
  rintro e w2 ⟨rfl, hc, h3⟩
  have HBE2 := Lib.hid (HBE1.out.trans h3)
  clear h3
  unfold errV at hc
  obtain ⟨F, hF⟩ : ∃ F, F = w.heap.size := ⟨_, rfl⟩
  rw [← hF] at hc
  rw [← hF]
  clear hF
  go_wp2
  go_region_held3 (fun w' => w'.cell? ⟨F, 0, none⟩ = some (.iface 115 (.pointer (some a)))) (go_keep) (fail)
  go_wp2
  go_ret2
  exact ⟨_, rfl, HBE2.out.drew⟩

set_option maxRecDepth 20000 in
set_option maxHeartbeats 400000 in
theorem implPutNumber {Q : Ending → World → Prop} (z n : Int) (w : World) (h : Calls Tryd.prog 28 #[.int .i64 z, .int .i64 n] w Q) (hQ : ∀ e w', Q e w' → ∃ a c d, e = .returned (.tuple #[.slice a c c, .bool d])) :
    Calls Tryd.prog 21 #[.int .i64 z, .int .i64 n] w Q := by
  have HH := Lib.hid h
  have HQ := Lib.hid hQ
  clear h hQ
  go_enter Tryd.func21, Tryd.ntmps21
  go_wp2_with fail
  refine HH.out.mono ?_
  intro e w1 hq
  obtain ⟨a, c, d, rfl⟩ := HQ.out e w1 hq
  have HR := Lib.hid hq
  clear hq
  go_wp2
  exact HR.out
end Go.Proofs.YtagjbndcbcepcaaDoor
