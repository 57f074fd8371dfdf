/- The law FnSums: its walk. -/
import Derived.Test.YtiahifohkhdmdaaSums
namespace Go.Proofs.Ytiahifohkhdmdaa
open Go.RowKit

theorem padded_id (bs : List UInt8) (h : bs.length = 512) : padded bs = bs := by
  unfold padded
  rw [List.take_of_length_le (by omega)]
  unfold splice
  rw [h, List.drop_of_length_le (by rw [length_zbs]; omega)]
  simp

def SU (bs : List UInt8) : Int := sumU bs 512
def SS (bs : List UInt8) : Int := sumS bs 512
theorem specSums512 (b c : Nat) (bs : List UInt8) (t : TypeId) (w : World) (hb : Blk w b t (bys bs)) (hl : bs.length = 512) :
    Calls Try.prog 11 #[.slice (some ⟨b, 0, none⟩) 512 c] w fun e w' => e = .returned (.tuple #[.int .i64 (SU bs), .int .i64 (SS bs)]) ∧ w = w' :=
  specSums b 0 512 c (Nat.le_refl _) bs w fun i hi => by rw [Nat.zero_add, hb.cell, bys_get bs i (by omega)]
theorem implSums512 (A : Option Addr) (n c B : Nat) (bs : List UInt8) (w : World) (hn : bs.length = n) (hr : RB w B A bs) (hB : B ≤ w.heap.size) :
    Calls Try.prog 12 #[.slice A n c] w fun e w' => e = .returned (.tuple #[.int .i64 (SU (padded bs)), .int .i64 (SS (padded bs))]) ∧ Below w.heap.size w w' :=
  implSums A n c B bs w hn hr hB 512 rfl

set_option maxRecDepth 20000 in
set_option maxHeartbeats 400000 in
theorem fnSums_walk (A : Option Addr) (n c : Nat) (bs : List UInt8) (w : World) (hn : bs.length = n) (hr : RB w w.heap.size A bs) (hm : n ≤ 9223372036854775807) :
    Calls Try.prog 3 #[.slice A n c] w fun e w' => e = .returned (.bool true) ∧ Below w.heap.size w w' := by
  have HN := Lib.hid hn
  have HR := Lib.hid hr
  have HP := Lib.hid (length_padded bs)
  have HI := Lib.hid (padded_id (padded bs) HP.out)
  clear hn hr
  by_cases hbig : 2147483647 < n
  · go_enter Try.func3, Try.ntmps3
    go_wp2
    go_ret
    exact ⟨rfl, Below.refl _ _⟩
  · go_enter Try.func3, Try.ntmps3
    go_wp2_with (refine wpList_make_blk _ (o := ⟨some 11, _, _, _, _, _⟩) rfl _ _ _ rfl 5 _ 1 Try.underlying22 u8info rfl _ _ 512 512 512 rfl rfl rfl rfl (by omega) (by omega) ?_)
    intro w1 b1 g1 z1
    have HB1 : Hid (Blk w1 w.heap.size 5 (bys (zbs 512))) := by rw [bys_zbs]; exact b1
    have HW1 : Hid (Below w.heap.size w w1) := grownBy_below g1 (Nat.le_refl _) (by simp)
    have HR1 := Lib.hid (HR.out.below HW1.out)
    have HL : Hid (0 + 512 ≤ (zbs 512).length) := by show _ ≤ _; rw [length_zbs]; omega
    have Z1 := Lib.hid z1
    clear b1 g1 z1
    go_wp2_with (refine wpList_copy_bytes (o := ⟨some 14, _, _, _, _, _⟩) _ rfl (.tmp 12) (.tmp 13) 22 22 rfl 5 Try.underlying22 u8size w.heap.size 0 512 512 n c A rfl rfl _ bs _ w.heap.size HB1.out HN.out HR1.out HL.out ?_)
    intro w2 b2 g2 z2
    have HB2 : Hid (Blk w2 w.heap.size 5 (bys (padded bs))) := b2
    have HW2 := Lib.hid (HW1.out.grown g2 (by rw [Z1.out]; omega) (by simp))
    have HZ2 : Hid (w.heap.size + 1 ≤ w2.heap.size) := by show _ ≤ _; rw [z2, Z1.out]; omega
    clear b2 g2 z2
    have HR2 := Lib.hid ((RB.of_blk HB2.out).more HZ2.out)
    go_wp2_with (first
      | (go_at_call 11; refine (specSums512 _ _ _ _ _ HB2.out HP.out).mono ?_; rintro e w' ⟨rfl, rfl⟩)
      | (go_at_call 12; refine (implSums512 _ _ _ _ _ _ HP.out HR2.out (Nat.le_refl _)).mono ?_; rw [HI.out]; rintro e w3 ⟨rfl, hb3⟩))
    go_ret
    exact ⟨rfl, HW2.out.trans (hb3.mono HW2.out.size)⟩
end Go.Proofs.Ytiahifohkhdmdaa
