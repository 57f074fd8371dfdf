/- ZZPutOctal and impl.PutOctal. -/
import Derived.Test.YtagjbndcbcepcaaDoorFO
import Derived.Test.YtagjbndcbcepcaaDoorFON
namespace Go.Proofs.YtagjbndcbcepcaaDoor
open Go.RowKit Go.PlainAid
set_option linter.unusedVariables false

theorem zero_formatter (w : World) : (zeroValue 44).run Tryd.prog w = .ok (.agg #[.nilIface]) w := by kernel_rfl
/-- What is put, where there is room. -/
def PutR (m : Nat) (bs : List UInt8) (w : World) (e : Ending) (w' : World) : Prop :=
  ∃ g, w.heap.size ≤ g ∧ e = .returned (.tuple #[.slice (some ⟨g, 0, none⟩) (m + 1) (m + 1), .bool true]) ∧ Blk w' g 5 (bys bs) ∧ Below w.heap.size w w'
/-- .. and where there is none. -/
def PutX (m : Nat) (w : World) (e : Ending) (w' : World) : Prop :=
  ∃ a, e = .returned (.tuple #[.slice a (m + 1) (m + 1), .bool false]) ∧ Below w.heap.size w w'

set_option maxRecDepth 20000 in
set_option maxHeartbeats 800000 in
theorem zzPutOctalYes (m N : Nat) (z : Int) (w : World) (hz : z = (m : Int) + 1) (hm : 1 ≤ m) (hm2 : m ≤ 21) (hN : N < 8 ^ m) (hN2 : N < 9223372036854775808) (hT : Tz8 w) :
    Calls Tryd.prog 27 #[.int .i64 z, .int .i64 (N : Int)] w (PutR m (od m (N : Int) ++ [0]) w) := by
  subst hz
  have hzf := zero_formatter
  have HF0 := Lib.hid (Blk.new w 44 [.nilIface])
  have HBE0 := Lib.hid ((Below.refl w.heap.size w).alloc (Nat.le_refl _) (.cells #[.nilIface] 44))
  have HNN := Lib.hid (And.intro hN hN2)
  have HT := Lib.hid hT
  clear hN hN2 hT
  go_enter Tryd.func27, Tryd.ntmps27
  go_wp2_with (refine wpList_make_blk _ (o := ⟨some 9, _, _, _, _, _⟩) rfl _ _ _ rfl 5 _ 1 Tryd.underlying22 u8info rfl _ _ ((m : Int) + 1) ((m : Int) + 1) (m + 1) rfl rfl (by rw [Int.natCast_add]; rfl) (by rw [Int.natCast_add]; rfl) (by omega) (by omega) ?_)
  intro w1 hb1 hg1 hz1
  rw [← bys_zbs] at hb1
  have hz2 : (w.alloc (.cells #[.nilIface] 44)).heap.size = w.heap.size + 1 := by simp
  have HB1 := Lib.hid hb1.out
  have HF1 := Lib.hid (HF0.out.grown hg1 (by simp))
  have HBE1 := Lib.hid (HBE0.out.trans (grownBy_below hg1 (by omega) (fun g h => by cases h)))
  clear hb1 hg1 hz1 hz2
  go_wp2_with fail
  refine (formatOctal_yes w.heap.size (w.heap.size + 1) m w.heap.size N w1 HF1.out HB1.out (by omega) (by omega) HBE1.out.size (by omega) hm hm2 HNN.out.1 HNN.out.2 (HT.out.below HBE1.out (Nat.le_refl _))).mono ?_
  rintro e w2 ⟨rfl, h1, h2, h3⟩
  have HB2 := Lib.hid h2
  have HBE2 := Lib.hid (HBE1.out.trans h3)
  have hc : w2.cell? ⟨w.heap.size, 0, none⟩ = some .nilIface := by rw [h1.cell]; rfl
  clear h1 h2 h3
  obtain ⟨F, hF⟩ : ∃ F, F = w.heap.size := ⟨_, rfl⟩
  obtain ⟨G, hG⟩ : ∃ G, G = w.heap.size + 1 := ⟨_, rfl⟩
  have HG0 : Hid (w.heap.size ≤ G) := by show _ ≤ _; omega
  rw [← hF] at hc
  rw [← hG] at HB2
  rw [← hG, ← hF]
  clear hF hG
  go_wp2
  go_region_held3 (fun w' => w'.cell? ⟨F, 0, none⟩ = some .nilIface) (go_keep) (fail)
  go_wp2
  go_ret2
  exact ⟨G, HG0.out, rfl, HB2.out, HBE2.out.drew⟩

set_option maxRecDepth 20000 in
set_option maxHeartbeats 800000 in
theorem zzPutOctalNo (m : Nat) (z n : Int) (w : World) (hz : z = (m : Int) + 1) (hm : 1 ≤ m) (hm2 : m ≤ 21) (hn : fitsO m n = false) (h1 : -9223372036854775808 ≤ n) (h2 : n ≤ 9223372036854775807) (hT : Tz8 w)
    {a : Addr} (hE : Err w.heap.size w 1 a) :
    Calls Tryd.prog 27 #[.int .i64 z, .int .i64 n] w (PutX m w) := by
  subst hz
  have hzf := zero_formatter
  have HF0 := Lib.hid (Blk.new w 44 [.nilIface])
  have HBE0 := Lib.hid ((Below.refl w.heap.size w).alloc (Nat.le_refl _) (.cells #[.nilIface] 44))
  have HN := Lib.hid hn
  have HT := Lib.hid hT
  have HE := Lib.hid hE
  have HG := Lib.hid (lt_of_cell' hT)
  clear hn hT hE
  go_enter Tryd.func27, Tryd.ntmps27
  go_wp2_with (refine wpList_make_blk _ (o := ⟨some 9, _, _, _, _, _⟩) rfl _ _ _ rfl 5 _ 1 Tryd.underlying22 u8info rfl _ _ ((m : Int) + 1) ((m : Int) + 1) (m + 1) rfl rfl (by rw [Int.natCast_add]; rfl) (by rw [Int.natCast_add]; rfl) (by omega) (by omega) ?_)
  intro w1 hb1 hg1 hz1
  rw [← bys_zbs] at hb1
  have hz2 : (w.alloc (.cells #[.nilIface] 44)).heap.size = w.heap.size + 1 := by simp
  have HB1 := Lib.hid hb1.out
  have HF1 := Lib.hid (HF0.out.grown hg1 (by simp))
  have HBE1 := Lib.hid (HBE0.out.trans (grownBy_below hg1 (by omega) (fun g h => by cases h)))
  clear hb1 hg1 hz1 hz2
  go_wp2_with fail
  refine (formatOctal_no w.heap.size (w.heap.size + 1) m w.heap.size w1 HF1.out HB1.out (by omega) (by omega) HBE1.out.size (by omega) hm hm2 n HN.out h1 h2 (HT.out.below HBE1.out (Nat.le_refl _)) (HE.out.more HBE1.out) (by have h9 : 9 < w.heap.size := HG.out; omega)).mono ?_
  rintro e w2 ⟨rfl, h1, _, h3⟩
  have HBE2 := Lib.hid (HBE1.out.trans h3)
  have hc : w2.cell? ⟨w.heap.size, 0, none⟩ = some (errV a) := by rw [h1.cell]; rfl
  clear h1 h3
  unfold errV at hc
  obtain ⟨F, hF⟩ : ∃ F, F = w.heap.size := ⟨_, rfl⟩
  rw [← hF] at hc
  rw [← hF]
  clear hF
  go_wp2
  go_region_held3 (fun w' => w'.cell? ⟨F, 0, none⟩ = some (.iface 115 (.pointer (some a)))) (go_keep) (fail)
  go_wp2
  go_ret2
  exact ⟨_, rfl, HBE2.out.drew⟩

set_option maxRecDepth 20000 in
set_option maxHeartbeats 400000 in
theorem implPutOctal {Q : Ending → World → Prop} (z n : Int) (w : World) (h : Calls Tryd.prog 27 #[.int .i64 z, .int .i64 n] w Q) (hQ : ∀ e w', Q e w' → ∃ a c d, e = .returned (.tuple #[.slice a c c, .bool d])) :
    Calls Tryd.prog 20 #[.int .i64 z, .int .i64 n] w Q := by
  have HH := Lib.hid h
  have HQ := Lib.hid hQ
  clear h hQ
  go_enter Tryd.func20, Tryd.ntmps20
  go_wp2_with fail
  refine HH.out.mono ?_
  intro e w1 hq
  obtain ⟨a, c, d, rfl⟩ := HQ.out e w1 hq
  have HR := Lib.hid hq
  clear hq
  go_wp2
  exact HR.out
theorem putR_form {m : Nat} {bs : List UInt8} {w : World} : ∀ e w', PutR m bs w e w' → ∃ a c d, e = .returned (.tuple #[.slice a c c, .bool d]) := fun e w' ⟨g, _, h, _⟩ => ⟨_, _, _, h⟩
theorem putX_form {m : Nat} {w : World} : ∀ e w', PutX m w e w' → ∃ a c d, e = .returned (.tuple #[.slice a c c, .bool d]) := fun e w' ⟨g, h, _⟩ => ⟨_, _, _, h⟩
end Go.Proofs.YtagjbndcbcepcaaDoor
