/- The law FnPutText: ZZPutString, impl.PutText, and the law's own walk. -/
import Derived.Test.YtiahifohkhdmdaaDoorPut2
import Derived.Test.YtiahifohkhdmdaaDoorBelow
namespace Go.Proofs.YtiahifohkhdmdaaDoor
open Go.RowKit Go.PlainAid
set_option linter.unusedVariables false

theorem zero_formatter (w : World) : (zeroValue 55).run Tryd.prog w = .ok (.agg #[.nilIface]) w := by kernel_rfl

/-- What PutText leaves, where the string has room. -/
def PutYes (s : ByteArray) (n : Nat) (w : World) (e : Ending) (w' : World) : Prop :=
  ∃ g, w.heap.size ≤ g ∧ e = .returned (.tuple #[.slice (some ⟨g, 0, none⟩) n n, .bool true]) ∧ Blk w' g 5 (bys (padS s n)) ∧ Below w.heap.size w w'
/-- .. and where it has none. -/
def PutNo (n : Nat) (w : World) (e : Ending) (w' : World) : Prop :=
  ∃ a, e = .returned (.tuple #[.slice a n n, .bool false]) ∧ Below w.heap.size w w'

set_option maxRecDepth 20000 in
set_option maxHeartbeats 800000 in
theorem zzPutYes (s : ByteArray) (n : Nat) (w : World) (hn : n ≤ 512) (hs : s.size ≤ n) :
    Calls Tryd.prog 19 #[.int .i64 n, .string s] w (PutYes s n w) := by
  have hz := zero_formatter
  have HF0 := Lib.hid (Blk.new w 55 [.nilIface])
  have HBE0 := Lib.hid ((Below.refl w.heap.size w).alloc (Nat.le_refl _) (.cells #[.nilIface] 55))
  go_enter Tryd.func19, Tryd.ntmps19
  go_wp2_with (refine wpList_make_blk _ (o := ⟨some 9, _, _, _, _, _⟩) rfl _ _ _ rfl 5 _ 1 Tryd.underlying23 u8info rfl _ _ n n n rfl rfl rfl rfl (by omega) (by omega) ?_)
  intro w1 hb1 hg1 hz1
  rw [← bys_zbs] at hb1
  have hz2 : (w.alloc (.cells #[.nilIface] 55)).heap.size = w.heap.size + 1 := by simp
  have HB1 := Lib.hid hb1.out
  have HF1 := Lib.hid (HF0.out.grown hg1 (by simp))
  have HBE1 := Lib.hid (HBE0.out.trans (grownBy_below hg1 (by omega) (fun g h => by cases h)))
  clear hb1 hg1 hz1 hz2
  go_wp2_with fail
  refine (fmtFits w.heap.size (w.heap.size + 1) n w.heap.size s w1 HF1.out HB1.out (by omega) (by omega) (by omega) hn hs).mono ?_
  rintro e w2 ⟨rfl, h1, h2, h3⟩
  have HB2 := Lib.hid h2
  have HBE2 := Lib.hid (HBE1.out.trans h3)
  have hc : w2.cell? ⟨w.heap.size, 0, none⟩ = some .nilIface := by rw [h1.cell]; rfl
  clear h1 h2 h3
  obtain ⟨F, hF⟩ : ∃ F, F = w.heap.size := ⟨_, rfl⟩
  obtain ⟨G, hG⟩ : ∃ G, G = w.heap.size + 1 := ⟨_, rfl⟩
  have HG0 : Hid (w.heap.size ≤ G) := by show _ ≤ _; omega
  rw [← hF] at hc
  rw [← hG] at HB2
  rw [← hG, ← hF]
  clear hF hG
  go_wp2
  go_region_held3 (fun w' => w'.cell? ⟨F, 0, none⟩ = some .nilIface) (go_keep) (fail)
  go_wp2
  go_ret2
  exact ⟨G, HG0.out, rfl, HB2.out, HBE2.out.drew⟩

set_option maxRecDepth 20000 in
set_option maxHeartbeats 800000 in
theorem zzPutNo (s : ByteArray) (n : Nat) (u : TypeId) (pp : Addr) (w : World) (hn1 : 1 ≤ n) (hn : n ≤ 512) (hs : n < s.size) (hm : s.size ≤ 4611686018427387904)
    (hgl : 0 < w.heap.size) (hE : w.cell? ⟨0, 0, none⟩ = some (.iface u (.pointer (some pp)))) :
    Calls Tryd.prog 19 #[.int .i64 n, .string s] w (PutNo n w) := by
  have hz := zero_formatter
  have HF0 := Lib.hid (Blk.new w 55 [.nilIface])
  have HBE0 := Lib.hid ((Below.refl w.heap.size w).alloc (Nat.le_refl _) (.cells #[.nilIface] 55))
  have HE := Lib.hid hE
  clear hE
  go_enter Tryd.func19, Tryd.ntmps19
  go_wp2_with (refine wpList_make_blk _ (o := ⟨some 9, _, _, _, _, _⟩) rfl _ _ _ rfl 5 _ 1 Tryd.underlying23 u8info rfl _ _ n n n rfl rfl rfl rfl (by omega) (by omega) ?_)
  intro w1 hb1 hg1 hz1
  rw [← bys_zbs] at hb1
  have hz2 : (w.alloc (.cells #[.nilIface] 55)).heap.size = w.heap.size + 1 := by simp
  have HB1 := Lib.hid hb1.out
  have HF1 := Lib.hid (HF0.out.grown hg1 (by simp))
  have HBE1 := Lib.hid (HBE0.out.trans (grownBy_below hg1 (by omega) (fun g h => by cases h)))
  clear hb1 hg1 hz1 hz2
  go_wp2_with fail
  refine (fmtLong w.heap.size (w.heap.size + 1) n w.heap.size s u pp w1 HF1.out HB1.out (by omega) (by omega) (by omega) hn1 hn hs hm ((HBE1.out.cell hgl).trans HE.out)).mono ?_
  rintro e w2 ⟨rfl, hc, h3⟩
  have HBE2 := Lib.hid (HBE1.out.trans h3)
  clear h3
  obtain ⟨F, hF⟩ : ∃ F, F = w.heap.size := ⟨_, rfl⟩
  rw [← hF] at hc
  rw [← hF]
  clear hF
  go_wp2
  go_region_held3 (fun w' => w'.cell? ⟨F, 0, none⟩ = some (.iface u (.pointer (some pp)))) (go_keep) (fail)
  go_wp2
  go_ret2
  exact ⟨_, rfl, HBE2.out.drew⟩
end Go.Proofs.YtiahifohkhdmdaaDoor
