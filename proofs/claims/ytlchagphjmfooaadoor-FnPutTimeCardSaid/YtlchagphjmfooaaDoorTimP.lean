/- Walks of parsePAXTime, case by case. -/
import Derived.Test.YtlchagphjmfooaaDoorTim
import Derived.Test.YtlchagphjmfooaaDoorTw
import Derived.Test.YtlchagphjmfooaaDoorPax
namespace Go.Proofs.YtlchagphjmfooaaDoor
open Go.RowKit Go.PlainAid
set_option linter.unusedVariables false

theorem results_row_tmp1 {P : Program} {fn : Func} {p u : Tmp} {ty : TypeId} (h : fn.results = #[.cell p ty, .tmp u]) (tmps : Array Value) (w : World) (g : Nat) (t : TypeId) (xs : List Value) (d : TypeDesc)
    (hp : tmps.getD p undef = .pointer (some ⟨g, 0, none⟩)) (hg : Blk w g t xs)
    (hu : P.underlying ty = some d) (hd : (match d with | .struct _ | .array _ _ => true | _ => false) = true) (hi : (P.info? ty).map (·.size) = some xs.length) :
    (results fn tmps).run P w = .ok (.tuple #[.agg xs.toArray, tmps.getD u undef]) w := by
  have hp' : tmps[p]?.getD undef = .pointer (some ⟨g, 0, none⟩) := by simpa using hp
  simp [results, h, hp', asAddr, run_loadVar_row w g t ty xs.toArray (0, 0) d hg hu hd (by simpa using hi)]
def TimPost2 (ns x : Int) (w : World) (e : Ending) (w' : World) : Prop := e = .returned (.tuple #[.agg #[.int .u64 ns, .int .i64 x], .nilIface]) ∧ Below w.heap.size w w'
def TimNo (a : Addr) (w : World) (e : Ending) (w' : World) : Prop := e = .returned (.tuple #[.agg #[.int .u64 0, .int .i64 0], errV a]) ∧ Below w.heap.size w w'

set_option maxRecDepth 20000 in
set_option maxHeartbeats 800000 in
theorem tim_noNum {C B : Nat} {a a1 a2 : Addr} {c : Bool} (s h t : ByteArray) (w : World) (hs : s.size ≤ 281474976710656) (hh : h.size ≤ s.size) (hE : Err w.heap.size w 0 a) (h1 : Err w.heap.size w 6 a1) (h2 : Err w.heap.size w 7 a2)
    (HC : Hid (cutV 46 s = .tuple #[.string h, .string t, .bool c])) (HP : ∀ v, Lib.parseIntB 64 h.data.toList ≠ .ok v) :
    Calls Tryd.prog 56 #[.string s] w (TimNo a w) := by
  have k1 := hE.cell
  have hlt := lt_of_cell' k1
  have hh2 : h.size ≤ 281474976710656 := by omega
  have H0 := Lib.hid hE
  have H1 := Lib.hid h1
  have H2 := Lib.hid h2
  have HP' := Lib.hid HP
  have hneq := fun w x => run_neq_iface_nil (P := Tryd.prog) (w := w) 105 isErr 188 x
  unfold errV at k1
  clear hE h1 h2 HP
  go_enter Tryd.func56, Tryd.ntmps56
  go_wp2_with (first
    | (go_at_call 72; refine (zzCut1 _ _ _ (by omega)).mono ?_; rw [HC.out]; rintro e w' ⟨rfl, n1, rfl⟩)
    | fail)
  have HB0 : Hid (Below w.heap.size w ((w.alloc (.cells #[.int .u64 0, .int .i64 0] 110)).drewN n1)) := Lib.hid (below_drewN ((Below.refl _ w).alloc (Nat.le_refl _) _) n1)
  refine (parseInt_no64 (B := w.heap.size) h _ hh2 HP'.out (H1.out.below HB0.out (Nat.le_refl _)) (H2.out.below HB0.out (Nat.le_refl _))).mono ?_
  rintro e w1 ⟨x, N, rfl, hb1⟩
  have HB1 : Hid (Below w.heap.size w w1) := Lib.hid (HB0.out.trans (hb1.mono HB0.out.size))
  have HK : Hid (Blk w1 w.heap.size 110 [.int .u64 0, .int .i64 0]) := Lib.hid (((Blk.new w _ [_, _]).drewN n1).below hb1 ((Blk.new w 110 [.int .u64 0, .int .i64 0]).drewN n1).lt)
  have k2 := (HB1.out.cell (p := ⟨0, 0, none⟩) hlt).trans k1
  have c0 : w1.cell? ⟨w.heap.size, 0, none⟩ = some (.int .u64 0) := by rw [HK.out.cell]; rfl
  have c1 : w1.cell? ⟨w.heap.size, 1, none⟩ = some (.int .i64 0) := by rw [HK.out.cell]; rfl
  have f0 := HK.out.frozen 0
  have f1 := HK.out.frozen 1
  have hg : 0 ≠ w.heap.size := Nat.ne_of_lt hlt
  clear hb1
  go_wp2
  go_region
  go_wp2
  refine bodyPost_ret (results_row_tmp1 rfl _ _ w.heap.size _ [.int .u64 0, .int .i64 0] _ rfl (((HK.out.set_ 0 (.int .u64 0)).set_ 1 (.int .i64 0)).drewN 1) Tryd.underlying110 rfl timInfo) rfl ?_
  exact ⟨rfl, ((HB1.out.setCell (Nat.le_refl _) _).setCell (Nat.le_refl _) _).drew⟩
set_option maxRecDepth 20000 in
set_option maxHeartbeats 800000 in
theorem tim_noPart {c : Bool} (s h t : ByteArray) (v x : Int) (w : World) (hs : s.size ≤ 281474976710656) (hh : h.size ≤ s.size)
    (HC : Hid (cutV 46 s = .tuple #[.string h, .string t, .bool c])) (HP : Lib.parseIntB 64 h.data.toList = .ok v) (ht : t.size = 0) (hx : IntKind.i64.wrap (v + 62135596800) = x) :
    Calls Tryd.prog 56 #[.string s] w (TimPost2 0 x w) := by
  have hh2 : h.size ≤ 281474976710656 := by omega
  have hneq := fun w => run_neq_nil_nil_at (P := Tryd.prog) (w := w) 105 isErr
  have HT := Lib.hid ht
  have ht2 : (t.size : Int) = 0 := by omega
  have HX := Lib.hid hx
  clear ht hx
  go_enter Tryd.func56, Tryd.ntmps56
  go_wp2_with (first
    | (go_at_call 72; refine (zzCut1 _ _ _ (by omega)).mono ?_; rw [HC.out]; rintro e w' ⟨rfl, n1, rfl⟩)
    | fail)
  have HB0 : Hid (Below w.heap.size w ((w.alloc (.cells #[.int .u64 0, .int .i64 0] 110)).drewN n1)) := Lib.hid (below_drewN ((Below.refl _ w).alloc (Nat.le_refl _) _) n1)
  refine (parseInt_ok64 h v _ hh2 HP).mono ?_
  rintro e w1 ⟨rfl, hb1⟩
  have HB1 : Hid (Below w.heap.size w w1) := Lib.hid (HB0.out.trans (hb1.mono HB0.out.size))
  have HK : Hid (Blk w1 w.heap.size 110 [.int .u64 0, .int .i64 0]) := Lib.hid (((Blk.new w _ [_, _]).drewN n1).below hb1 ((Blk.new w 110 [.int .u64 0, .int .i64 0]).drewN n1).lt)
  clear hb1
  go_wp2_with fail
  refine (unix_pos v 0 x _ (by omega) (by omega) HX.out).mono ?_
  rintro e w2 ⟨rfl, hb2⟩
  have HB2 : Hid (Below w.heap.size w w2) := Lib.hid (HB1.out.trans (hb2.mono HB1.out.size))
  have HK2 : Hid (Blk w2 w.heap.size 110 [.int .u64 0, .int .i64 0]) := Lib.hid (HK.out.below hb2 HK.out.lt)
  have c0 : w2.cell? ⟨w.heap.size, 0, none⟩ = some (.int .u64 0) := by rw [HK2.out.cell]; rfl
  have c1 : w2.cell? ⟨w.heap.size, 1, none⟩ = some (.int .i64 0) := by rw [HK2.out.cell]; rfl
  have f0 := HK2.out.frozen 0
  have f1 := HK2.out.frozen 1
  clear hb2
  go_wp2
  refine bodyPost_ret (results_row_tmp1 rfl _ _ w.heap.size _ [.int .u64 0, .int .i64 x] _ rfl ((HK2.out.set_ 0 (.int .u64 0)).set_ 1 (.int .i64 x)) Tryd.underlying110 rfl timInfo) rfl ?_
  exact ⟨rfl, (HB2.out.setCell (Nat.le_refl _) _).setCell (Nat.le_refl _) _⟩
end Go.Proofs.YtlchagphjmfooaaDoor
