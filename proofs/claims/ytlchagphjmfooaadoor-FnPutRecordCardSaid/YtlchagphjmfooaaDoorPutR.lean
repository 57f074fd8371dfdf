/- Walks of ZZPutRecord, impl.PutRecord, impl.ValidRecord. -/
import Derived.Test.YtlchagphjmfooaaDoorFmt
namespace Go.Proofs.YtlchagphjmfooaaDoor
open Go.RowKit Go.PlainAid
set_option linter.unusedVariables false

def PutYes (k v : ByteArray) (w : World) (e : Ending) (w' : World) : Prop := (∃ N s, Wrote s N k v ∧ N ≤ 4294967400 ∧ e = .returned (.tuple #[.string s, .bool true])) ∧ Below w.heap.size w w'
def PutNo (w : World) (e : Ending) (w' : World) : Prop := e = .returned (.tuple #[.string ⟨#[]⟩, .bool false]) ∧ Below w.heap.size w w'
set_option maxRecDepth 20000 in
set_option maxHeartbeats 800000 in
theorem zzPut_yes (k v : ByteArray) (w : World) (hk : k.size ≤ 2147483647) (hv : v.size ≤ 2147483647) (nk : ¬ fc 0 k < k.size) (nv : ¬ fc 0 v < v.size) (hok : KeyOk k) (hT : Tab w) :
    Calls Tryd.prog 44 #[.string k, .string v] w (PutYes k v w) := by
  have HF := Lib.hid (fmt_yes k v w hk hv nk nv hok hT)
  have hneq := fun w => run_eql_nil_nil_at (P := Tryd.prog) (w := w) 105 isErr
  clear nk nv hok hT
  go_enter Tryd.func44, Tryd.ntmps44
  go_wp2_with (go_at_call 61; refine HF.out.mono ?_; rintro e w1 ⟨⟨N, s, hW, hN, rfl⟩, hb1⟩)
  have HB1 := Lib.hid hb1
  have HW := Lib.hid hW
  clear hb1 hW
  go_region_held3 (fun _ => True) (trivial) (fail)
  go_wp2
  go_ret2
  exact ⟨⟨N, s, HW.out, hN, rfl⟩, HB1.out.drew⟩
set_option maxRecDepth 20000 in
set_option maxHeartbeats 800000 in
theorem zzPut_no {C : Nat} {a : Addr} (k v : ByteArray) (w : World) (hk : k.size ≤ 2147483647) (hv : v.size ≤ 2147483647) (nk : ¬ fc 0 k < k.size) (nv : ¬ fc 0 v < v.size) (hbad : ¬ KeyOk k) (hE : Err C w 0 a) :
    Calls Tryd.prog 44 #[.string k, .string v] w (PutNo w) := by
  have HF := Lib.hid (fmt_no k v w hk hv nk nv hbad hE)
  have hneq := fun w x => run_eql_iface_nil (P := Tryd.prog) (w := w) 105 isErr 226 x
  clear nk nv hbad hE
  go_enter Tryd.func44, Tryd.ntmps44
  go_wp2_with (go_at_call 61; refine HF.out.mono ?_; unfold errV; rintro e w1 ⟨rfl, hb1⟩)
  have HB1 := Lib.hid hb1
  clear hb1
  go_region_held3 (fun _ => True) (trivial) (fail)
  go_wp2
  go_ret2
  exact ⟨rfl, HB1.out.drew⟩
theorem rec_blk0 (w : World) (T : TypeId) (a b : Value) : Below w.heap.size w (w.alloc (.cells #[a, b] T)) := (Below.refl _ w).alloc (Nat.le_refl _) _
set_option maxRecDepth 20000 in
set_option maxHeartbeats 800000 in
theorem implPut_yes (k v : ByteArray) (w : World) (hk : k.size ≤ 2147483647) (hv : v.size ≤ 2147483647) (nk : ¬ fc 0 k < k.size) (nv : ¬ fc 0 v < v.size) (hok : KeyOk k) (hT : Tab w) :
    Calls Tryd.prog 25 #[.agg #[.string k, .string v]] w (PutYes k v w) := by
  have HF := Lib.hid (zzPut_yes k v (w.alloc (.cells #[.string k, .string v] 27)) hk hv nk nv hok (tab_below hT (rec_blk0 _ _ _ _)))
  clear nk nv hok hT
  go_enter Tryd.func25, Tryd.ntmps25
  go_wp2_with (go_at_call 44; refine HF.out.mono ?_; rintro e w1 ⟨⟨N, s, hW, hN, rfl⟩, hb1⟩; have HB1 : Hid (Below w.heap.size w w1) := Lib.hid ((rec_blk0 _ _ _ _).trans (hb1.mono (rec_blk0 _ _ _ _).size)); have HW := Lib.hid hW; clear hb1 hW)
  go_ret2
  exact ⟨⟨N, s, HW.out, hN, rfl⟩, HB1.out⟩
set_option maxRecDepth 20000 in
set_option maxHeartbeats 800000 in
theorem implPut_no {a : Addr} (k v : ByteArray) (w : World) (hk : k.size ≤ 2147483647) (hv : v.size ≤ 2147483647) (nk : ¬ fc 0 k < k.size) (nv : ¬ fc 0 v < v.size) (hbad : ¬ KeyOk k) (hE : Err w.heap.size w 0 a) :
    Calls Tryd.prog 25 #[.agg #[.string k, .string v]] w (PutNo w) := by
  have HF := Lib.hid (zzPut_no k v (w.alloc (.cells #[.string k, .string v] 27)) hk hv nk nv hbad (hE.more (rec_blk0 _ _ _ _)))
  clear nk nv hbad hE
  go_enter Tryd.func25, Tryd.ntmps25
  go_wp2_with (go_at_call 44; refine HF.out.mono ?_; rintro e w1 ⟨rfl, hb1⟩; have HB1 : Hid (Below w.heap.size w w1) := Lib.hid ((rec_blk0 _ _ _ _).trans (hb1.mono (rec_blk0 _ _ _ _).size)); clear hb1)
  go_ret2
  exact ⟨rfl, HB1.out⟩
set_option maxRecDepth 20000 in
set_option maxHeartbeats 800000 in
theorem zzValid (k v : ByteArray) (b : Bool) (w : World) (hk : k.size ≤ 4611686018427387904) (hv : v.size ≤ 4611686018427387904) (nk : ¬ fc 0 k < k.size) (nv : ¬ fc 0 v < v.size) (hb : decide (k.size ≠ 0 ∧ ¬ fc 61 k < k.size) = b) :
    Calls Tryd.prog 45 #[.string k, .string v] w fun e w' => e = .returned (.bool b) ∧ w = w' := by
  have HF := fun w => Lib.hid (valid_ok k v w hk hv nk nv)
  have HB : Hid (decide (k.size ≠ 0 ∧ ¬ fc 61 k < k.size) = b) := Lib.hid hb
  clear nk nv hb
  go_enter Tryd.func45, Tryd.ntmps45
  go_wp2_with fail
  refine (HF _).out.mono ?_
  rw [HB.out]
  rintro e w1 ⟨rfl, rfl⟩
  go_wp2
  go_ret
  exact ⟨rfl, rfl⟩
set_option maxRecDepth 20000 in
set_option maxHeartbeats 800000 in
theorem implValid (k v : ByteArray) (b : Bool) (w : World) (hk : k.size ≤ 4611686018427387904) (hv : v.size ≤ 4611686018427387904) (nk : ¬ fc 0 k < k.size) (nv : ¬ fc 0 v < v.size) (hb : decide (k.size ≠ 0 ∧ ¬ fc 61 k < k.size) = b) :
    Calls Tryd.prog 26 #[.agg #[.string k, .string v]] w fun e w' => e = .returned (.bool b) ∧ w' = w.alloc (.cells #[.string k, .string v] 27) := by
  have HF := fun w => Lib.hid (zzValid k v b w hk hv nk nv hb)
  clear nk nv hb
  go_enter Tryd.func26, Tryd.ntmps26
  go_wp2_with fail
  refine (HF _).out.mono ?_
  rintro e w1 ⟨rfl, rfl⟩
  go_wp2
  go_ret
  exact ⟨rfl, rfl⟩
end Go.Proofs.YtlchagphjmfooaaDoor
