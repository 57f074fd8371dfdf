/- strconv.ParseInt at base 10: one contract for a number, one for none. -/
import Derived.Test.YtlchagphjmfooaaDoorDec
import Derived.Test.YtlchagphjmfooaaDoorErr
import Derived.Test.YtlchagphjmfooaaDoorShelf
import Derived.Lib.UnsafeStr
namespace Go.Proofs.YtlchagphjmfooaaDoor
open Go.RowKit Go.PlainAid
set_option linter.unusedVariables false

theorem bytesWorld_below (w : World) (e : TypeId) (s : ByteArray) : Below w.heap.size w (Lib.bytesWorld w e s) := Lib.below_freeze (((Below.refl _ w).drew).alloc (Nat.le_refl _) _) (Nat.le_refl _) _
def ParseYes (v : Int) (w : World) (e : Ending) (w' : World) : Prop := e = .returned (.tuple #[.int .i64 v, .nilIface]) ∧ Below w.heap.size w w'
def ParseNo (w : World) (e : Ending) (w' : World) : Prop := ∃ (x : Int) (N : Nat), e = .returned (.tuple #[.int .i64 x, .iface 188 (.pointer (some ⟨N, 0, none⟩))]) ∧ Below w.heap.size w w'
theorem parseInt_ok0 (s : ByteArray) (v : Int) (w : World) (hs : s.size ≤ 281474976710656) (h : Lib.parseIntB 64 s.data.toList = .ok v) :
    Calls Tryd.prog 73 #[.string s, .int .i64 10, .int .i64 0] w (ParseYes v w) := by
  refine (Tryd.strconv_ParseInt_10_at0_ok s (by omega) v h w).mono ?_
  rintro e w' ⟨rfl, h1⟩
  refine ⟨rfl, ?_⟩
  rcases h1 with rfl | ⟨t, rfl⟩
  · exact Below.refl _ _
  · exact bytesWorld_below _ _ _
theorem parseInt_ok64 (s : ByteArray) (v : Int) (w : World) (hs : s.size ≤ 281474976710656) (h : Lib.parseIntB 64 s.data.toList = .ok v) :
    Calls Tryd.prog 73 #[.string s, .int .i64 10, .int .i64 64] w (ParseYes v w) := by
  refine (Tryd.strconv_ParseInt_10_at64_ok s (by omega) v h w).mono ?_
  rintro e w' ⟨rfl, h1⟩
  refine ⟨rfl, ?_⟩
  rcases h1 with rfl | ⟨t, rfl⟩
  · exact Below.refl _ _
  · exact bytesWorld_below _ _ _
theorem parseInt_no0 {B : Nat} {a1 a2 : Addr} (s : ByteArray) (w : World) (hs : s.size ≤ 281474976710656) (h : ∀ v, Lib.parseIntB 64 s.data.toList ≠ .ok v) (h1 : Err B w 6 a1) (h2 : Err B w 7 a2) :
    Calls Tryd.prog 73 #[.string s, .int .i64 10, .int .i64 0] w (ParseNo w) := by
  cases hp : Lib.parseIntB 64 s.data.toList with
  | ok v => exact absurd hp (h v)
  | range =>
    refine (Tryd.strconv_ParseInt_10_at0_range s hs hp _ w h2.cell (.inr ⟨_, _, rfl⟩)).mono ?_
    rintro e w' ⟨N, rfl, _, _, hb⟩
    exact ⟨_, N, rfl, hb⟩
  | _ =>
    refine (Tryd.strconv_ParseInt_10_at0_syntax s hs hp _ w h1.cell (.inr ⟨_, _, rfl⟩)).mono ?_
    rintro e w' ⟨N, rfl, _, _, hb⟩
    exact ⟨_, N, rfl, hb⟩
theorem parseInt_no64 {B : Nat} {a1 a2 : Addr} (s : ByteArray) (w : World) (hs : s.size ≤ 281474976710656) (h : ∀ v, Lib.parseIntB 64 s.data.toList ≠ .ok v) (h1 : Err B w 6 a1) (h2 : Err B w 7 a2) :
    Calls Tryd.prog 73 #[.string s, .int .i64 10, .int .i64 64] w (ParseNo w) := by
  cases hp : Lib.parseIntB 64 s.data.toList with
  | ok v => exact absurd hp (h v)
  | range =>
    refine (Tryd.strconv_ParseInt_10_at64_range s hs hp _ w h2.cell (.inr ⟨_, _, rfl⟩)).mono ?_
    rintro e w' ⟨N, rfl, _, _, hb⟩
    exact ⟨_, N, rfl, hb⟩
  | _ =>
    refine (Tryd.strconv_ParseInt_10_at64_syntax s hs hp _ w h1.cell (.inr ⟨_, _, rfl⟩)).mono ?_
    rintro e w' ⟨N, rfl, _, _, hb⟩
    exact ⟨_, N, rfl, hb⟩
end Go.Proofs.YtlchagphjmfooaaDoor
