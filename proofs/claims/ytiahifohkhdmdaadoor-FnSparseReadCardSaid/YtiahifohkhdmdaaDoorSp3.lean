/- tryReadFull over the two readers that the sparse reader reads. -/
import Derived.Test.YtiahifohkhdmdaaDoorSp2
import Derived.Deep.RegionWith
import Derived.StillTailTactics
namespace Go.Proofs.YtiahifohkhdmdaaDoor
open Go.RowKit Go.PlainAid
set_option linter.unusedVariables false

theorem nilRd (f b : Nat) (w : World) : (nilAhead (f + 1) 74 (.pointer (some ⟨b, 0, none⟩)) "Read").run Tryd.prog w = .ok (some false) w := by kernel_rfl
theorem methRd (b : Nat) (w : World) : (method 78 74 (.pointer (some ⟨b, 0, none⟩)) "Read").run Tryd.prog w = .ok (67, .pointer (some ⟨b, 0, none⟩)) w := by kernel_rfl
theorem nilZr (f : Nat) (w : World) : (nilAhead (f + 1) 99 (.agg #[]) "Read").run Tryd.prog w = .ok (some false) w := by kernel_rfl
theorem methZr (w : World) : (method 78 99 (.agg #[]) "Read").run Tryd.prog w = .ok (74, .agg #[]) w := by kernel_rfl

/-- What a reader's Read leaves that reads all it is asked for. -/
def ReadAll (a : Addr) (n : Nat) (P : World → Prop) (e : Ending) (w' : World) : Prop := ∃ l, e = .returned (.tuple #[.int .i64 n, eofV a l]) ∧ P w'
/-- What tryReadFull's loop has done. -/
def TryAt (a : Addr) (n : Nat) (P : World → Prop) (w : World) (k : Nat) (v : Value) (wr : World) : Prop := (k = 0 ∧ v = .nilIface ∧ w = wr) ∨ (k = n ∧ (∃ l, v = eofV a l) ∧ P wr)

set_option maxRecDepth 20000 in
set_option maxHeartbeats 800000 in
theorem tryReg (Fr g off n c B : Nat) (a : Addr) (w : World) (P : World → Prop) (hpos : 0 < n) (hc : n ≤ c) (hbig : n ≤ 4611686018427387904) (hPE : ∀ w', P w' → Err B w' 2 a) (hPD : ∀ w', P w' → P w'.drew)
    (hR : ∀ w0, w0 = w ∨ w0 = w.drew → Calls Tryd.prog 67 #[.pointer (some ⟨Fr, 0, none⟩), .slice (some ⟨g, off, none⟩) n c] w0 (ReadAll a n P)) :
    Calls Tryd.prog 37 #[.iface 74 (.pointer (some ⟨Fr, 0, none⟩)), .slice (some ⟨g, off, none⟩) n c] w fun e w' => e = .returned (.tuple #[.int .i64 n, .nilIface]) ∧ P w' := by
  have hn := fun f => nilRd f Fr
  have hm := methRd Fr
  have HR := Lib.hid hR
  have HPE := Lib.hid hPE
  have HPD := Lib.hid hPD
  clear hR hPE hPD
  have hc0 : ¬ c = 0 := by omega
  go_enter Tryd.func37, Tryd.ntmps37
  go_wp2
  go_loopw [4, 5] (fun i v wr => ∃ k : Nat, i = .int .i64 k ∧ TryAt a n P w k v wr) (fun i _ _ => n - (intOf i).toNat)
  case atStart => exact ⟨0, rfl, .inl ⟨rfl, rfl, rfl⟩⟩
  case round =>
    obtain ⟨k, rfl, hk⟩ := hrel
    rcases hk with ⟨rfl, rfl, rfl⟩ | ⟨rfl, ⟨l, rfl⟩, hp⟩
    · go_wp2_with fail
      rw [show ((0 : Nat) : Int) = 0 from rfl]
      go_region_with (go_at_call 67; refine (HR.out _ (by first | exact .inl rfl | exact .inr rfl)).mono ?_; rintro e w' ⟨l, rfl, hp⟩)
      all_goals
        have HP := Lib.hid hp
        clear hp
        go_wp2
        go_roundw
        case rel => exact ⟨n, by go_num, .inr ⟨rfl, ⟨l, rfl⟩, by first | exact HP.out | exact HPD.out _ HP.out⟩⟩
        case measure => simp [intOf]; omega
    · have HP := Lib.hid hp
      have hE := HPE.out _ hp
      have k := hE.cell
      have heq := err_eq wr a
      have heq2 := fun w => run_eql_iface_nil_left (P := Tryd.prog) w 100 (.pointer (some a)) Tryd.underlying53
      unfold errV at k heq
      clear hp hE
      cases l
      · unfold eofV
        go_wp2
        go_ret2
        exact ⟨rfl, HP.out⟩
      · unfold eofV errV
        go_wp2
        go_ret2
        exact ⟨rfl, HP.out⟩
set_option maxRecDepth 20000 in
set_option maxHeartbeats 800000 in
theorem tryZero (g off n c B : Nat) (a : Addr) (w : World) (P : World → Prop) (hpos : 0 < n) (hc : n ≤ c) (hbig : n ≤ 4611686018427387904) (hPE : ∀ w', P w' → Err B w' 2 a) (hPD : ∀ w', P w' → P w'.drew)
    (hR : ∀ w0, w0 = w ∨ w0 = w.drew → Calls Tryd.prog 74 #[.agg #[], .slice (some ⟨g, off, none⟩) n c] w0 (ReadAll a n P)) :
    Calls Tryd.prog 37 #[.iface 99 (.agg #[]), .slice (some ⟨g, off, none⟩) n c] w fun e w' => e = .returned (.tuple #[.int .i64 n, .nilIface]) ∧ P w' := by
  have hn := nilZr
  have hm := methZr
  have HR := Lib.hid hR
  have HPE := Lib.hid hPE
  have HPD := Lib.hid hPD
  clear hR hPE hPD
  have hc0 : ¬ c = 0 := by omega
  go_enter Tryd.func37, Tryd.ntmps37
  go_wp2
  go_loopw [4, 5] (fun i v wr => ∃ k : Nat, i = .int .i64 k ∧ TryAt a n P w k v wr) (fun i _ _ => n - (intOf i).toNat)
  case atStart => exact ⟨0, rfl, .inl ⟨rfl, rfl, rfl⟩⟩
  case round =>
    obtain ⟨k, rfl, hk⟩ := hrel
    rcases hk with ⟨rfl, rfl, rfl⟩ | ⟨rfl, ⟨l, rfl⟩, hp⟩
    · go_wp2_with fail
      rw [show ((0 : Nat) : Int) = 0 from rfl]
      go_region_with (go_at_call 74; refine (HR.out _ (by first | exact .inl rfl | exact .inr rfl)).mono ?_; rintro e w' ⟨l, rfl, hp⟩)
      all_goals
        have HP := Lib.hid hp
        clear hp
        go_wp2
        go_roundw
        case rel => exact ⟨n, by go_num, .inr ⟨rfl, ⟨l, rfl⟩, by first | exact HP.out | exact HPD.out _ HP.out⟩⟩
        case measure => simp [intOf]; omega
    · have HP := Lib.hid hp
      have hE := HPE.out _ hp
      have k := hE.cell
      have heq := err_eq wr a
      have heq2 := fun w => run_eql_iface_nil_left (P := Tryd.prog) w 100 (.pointer (some a)) Tryd.underlying53
      unfold errV at k heq
      clear hp hE
      cases l
      · unfold eofV
        go_wp2
        go_ret2
        exact ⟨rfl, HP.out⟩
      · unfold eofV errV
        go_wp2
        go_ret2
        exact ⟨rfl, HP.out⟩
end Go.Proofs.YtiahifohkhdmdaaDoor
