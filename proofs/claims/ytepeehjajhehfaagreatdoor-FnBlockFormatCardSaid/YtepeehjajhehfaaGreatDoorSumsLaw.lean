/- The law FnSums: its walk. -/
import Derived.Test.YtepeehjajhehfaaGreatDoorSums
namespace Go.Proofs.YtepeehjajhehfaaGreatDoor
open Go.RowKit

theorem padded_id (bs : List UInt8) (h : bs.length = 512) : padded bs = bs := by
  unfold padded
  rw [List.take_of_length_le (by omega)]
  unfold splice
  rw [h, List.drop_of_length_le (by rw [length_zbs]; omega)]
  simp

def SU (bs : List UInt8) : Int := sumU bs 512
def SS (bs : List UInt8) : Int := sumS bs 512
theorem specSums512 (b c : Nat) (bs : List UInt8) (t : TypeId) (w : World) (hb : Blk w b t (bys bs)) (hl : bs.length = 512) :
    Calls Tryz.prog 60 #[.slice (some ⟨b, 0, none⟩) 512 c] w fun e w' => e = .returned (.tuple #[.int .i64 (SU bs), .int .i64 (SS bs)]) ∧ w = w' :=
  specSums b 0 512 c (Nat.le_refl _) bs w fun i hi => by rw [Nat.zero_add, hb.cell, bys_get bs i (by omega)]

end Go.Proofs.YtepeehjajhehfaaGreatDoor
