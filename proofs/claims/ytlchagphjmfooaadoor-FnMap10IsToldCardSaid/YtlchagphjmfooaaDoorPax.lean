/- Walks of validPAXRecord, parsePAXRecord, ZZRecord, impl.ReadRecord. -/
import Derived.Test.YtlchagphjmfooaaDoorRec
import Derived.Test.YtlchagphjmfooaaDoorParse
import Derived.Stop.IfaceNil
namespace Go.Proofs.YtlchagphjmfooaaDoor
open Go.RowKit Go.PlainAid
set_option linter.unusedVariables false

set_option maxRecDepth 20000 in
set_option maxHeartbeats 800000 in
theorem valid_ok (k v : ByteArray) (w : World) (hk : k.size ≤ 4611686018427387904) (hv : v.size ≤ 4611686018427387904) (nk : ¬ fc 0 k < k.size) (nv : ¬ fc 0 v < v.size) :
    Calls Tryd.prog 62 #[.string k, .string v] w fun e w' => e = .returned (.bool (decide (k.size ≠ 0 ∧ ¬ fc 61 k < k.size))) ∧ w = w' := by
  have N1 : Hid (decide (fc 0 k < k.size) = false) := Lib.hid (decide_eq_false nk)
  have N2 : Hid (decide (fc 0 v < v.size) = false) := Lib.hid (decide_eq_false nv)
  clear nk nv
  by_cases h0 : k.size = 0
  · have HV : Hid (decide (k.size ≠ 0 ∧ ¬ fc 61 k < k.size) = false) := Lib.hid (decide_eq_false (fun h => h.1 h0))
    obtain ⟨e1, e2⟩ := empty_yes h0
    clear h0
    go_enter Tryd.func62, Tryd.ntmps62
    go_wp2_with (fail)
    go_ret
    exact ⟨by rw [HV.out]; rfl, rfl⟩
  obtain ⟨e1, e2⟩ := empty_no h0
  by_cases hq : fc 61 k < k.size
  · have HV : Hid (decide (k.size ≠ 0 ∧ ¬ fc 61 k < k.size) = false) := Lib.hid (decide_eq_false (fun h => h.2 hq))
    have HQ : Hid (decide (fc 61 k < k.size) = true) := Lib.hid (decide_eq_true hq)
    clear h0 hq
    go_enter Tryd.func62, Tryd.ntmps62
    go_wp2_with (go_at_call 79; refine (zzContains1 k 61 w hk).mono ?_; rw [HQ.out]; rintro e w' ⟨rfl, rfl⟩)
    go_ret
    exact ⟨by rw [HV.out]; rfl, rfl⟩
  · have HV : Hid (decide (k.size ≠ 0 ∧ ¬ fc 61 k < k.size) = true) := Lib.hid (decide_eq_true ⟨h0, hq⟩)
    have HQ : Hid (decide (fc 61 k < k.size) = false) := Lib.hid (decide_eq_false hq)
    clear h0 hq
    go_enter Tryd.func62, Tryd.ntmps62
    go_wp2_with (first
      | (go_at_call 79; refine (zzContains1 k 61 w hk).mono ?_; rw [HQ.out]; rintro e w' ⟨rfl, rfl⟩)
      | (go_at_call 80; refine (pubHasNUL _ w (by assumption)).mono ?_; (first | rw [N1.out] | rw [N2.out]); rintro e w' ⟨rfl, rfl⟩))
    all_goals
      go_ret
      exact ⟨by rw [HV.out]; rfl, rfl⟩

theorem isErr : Tryd.prog.isIface 105 = true := by kernel_rfl
theorem no_num {h : ByteArray} (hbad : ¬ headBad h) (hd : ¬ allDig h.data.toList) : ∀ v, Lib.parseIntB 64 h.data.toList ≠ .ok v := by
  unfold headBad at hbad
  have e := Lib.size_eq h
  refine intB_bad (fun hn => by rw [hn] at e; exact hbad (.inl e)) ?_ hd
  intro c hc
  have hz : 0 < h.size := by omega
  obtain ⟨d, h1, h2⟩ := bt_of h 0 hz
  rw [List.head?_eq_getElem?, h1] at hc
  obtain rfl := Option.some.inj hc
  omega
theorem results_tmp4 {fn : Func} {t u v x : Tmp} (h : fn.results = #[.tmp t, .tmp u, .tmp v, .tmp x]) (tmps : Array Value) (P : Program) (w : World) :
    (results fn tmps).run P w = .ok (.tuple #[tmps.getD t undef, tmps.getD u undef, tmps.getD v undef, tmps.getD x undef]) w := by
  simp [results, h]
def PaxNo (s : ByteArray) (a : Addr) (w : World) (e : Ending) (w' : World) : Prop := e = .returned (.tuple #[.string ⟨#[]⟩, .string ⟨#[]⟩, .string s, errV a]) ∧ Below w.heap.size w w'
def PaxYes (k v r : ByteArray) (w : World) (e : Ending) (w' : World) : Prop := e = .returned (.tuple #[.string k, .string v, .string r, .nilIface]) ∧ Below w.heap.size w w'

set_option maxRecDepth 20000 in
set_option maxHeartbeats 800000 in
theorem paxNoCut {C : Nat} {a : Addr} (s : ByteArray) (w : World) (hs : s.size ≤ 281474976710656) (hE : Err C w 0 a) (h : ¬ fc 32 s < s.size) :
    Calls Tryd.prog 55 #[.string s] w (PaxNo s a w) := by
  have HC : Hid (cutV 32 s = .tuple #[.string s, .string ⟨#[]⟩, .bool false]) := Lib.hid (by unfold cutV; rw [if_neg h])
  have k1 := hE.cell
  unfold errV at k1
  clear h hE
  go_enter Tryd.func55, Tryd.ntmps55
  go_wp2_with (go_at_call 72; refine (zzCut1 _ _ _ (by omega)).mono ?_; rw [HC.out]; rintro e w' ⟨rfl, n1, rfl⟩)
  go_region_held3 (fun w' => w'.cell? ⟨0, 0, none⟩ = some (.iface 226 (.pointer (some a)))) (go_keep) (fail)
  go_wp2
  (try simp only [Exit.inBlock, Exit.then])
  refine bodyPost_ret (results_tmp4 rfl _ _ _) rfl ?_
  exact ⟨rfl, below_drewN (below_drewN (Below.refl _ _) n1) 1⟩

set_option maxRecDepth 20000 in
set_option maxHeartbeats 800000 in
theorem paxNoNum {B C : Nat} {a a1 a2 : Addr} (s h t : ByteArray) (w : World) (hs : s.size ≤ 281474976710656) (hh : h.size ≤ s.size) (hE : Err C w 0 a) (h1 : Err B w 6 a1) (h2 : Err B w 7 a2)
    (HC : Hid (cutV 32 s = .tuple #[.string h, .string t, .bool true])) (hbad : ¬ headBad h) (hd : ¬ allDig h.data.toList) :
    Calls Tryd.prog 55 #[.string s] w (PaxNo s a w) := by
  have HP : ∀ v, Lib.parseIntB 64 h.data.toList ≠ .ok v := no_num hbad hd
  have k1 := hE.cell
  have hlt := lt_of_cell' k1
  have H1 := Lib.hid h1
  have H2 := Lib.hid h2
  have hh2 : h.size ≤ 281474976710656 := by omega
  have hneq := fun w x => run_neq_iface_nil (P := Tryd.prog) (w := w) 105 isErr 188 x
  have HBAD := Lib.hid hbad
  unfold errV at k1
  clear hd hE h1 h2 hbad
  go_enter Tryd.func55, Tryd.ntmps55
  go_wp2_with (first
    | (go_at_call 72; refine (zzCut1 _ _ _ (by omega)).mono ?_; rw [HC.out]; rintro e w' ⟨rfl, n1, rfl⟩)
    | (go_at_call 73; refine (parseInt_no0 (B := B) h _ hh2 HP (by exact ⟨H1.out.cell, H1.out.blk, H1.out.lg, H1.out.la⟩) (by exact ⟨H2.out.cell, H2.out.blk, H2.out.lg, H2.out.la⟩)).mono ?_; rintro e w1 ⟨x, N, rfl, hb1⟩))
  have HB1 : Hid (Below w.heap.size w w1) := Lib.hid ((below_drewN (Below.refl _ w) n1).trans hb1)
  have k2 := (HB1.out.cell (p := ⟨0, 0, none⟩) hlt).trans k1
  clear hb1
  go_wp2
  go_region_held3 (fun w' => w'.cell? ⟨0, 0, none⟩ = some (.iface 226 (.pointer (some a)))) (go_keep) (fail)
  go_wp2
  (try simp only [Exit.inBlock, Exit.then])
  refine bodyPost_ret (results_tmp4 rfl _ _ _) rfl ?_
  exact ⟨rfl, HB1.out.drew⟩

set_option maxRecDepth 20000 in
set_option maxHeartbeats 800000 in
theorem paxFive {C : Nat} {a : Addr} (s h t : ByteArray) (n : Nat) (w : World) (hs : s.size ≤ 281474976710656) (hh : h.size ≤ s.size) (hE : Err C w 0 a)
    (HC : Hid (cutV 32 s = .tuple #[.string h, .string t, .bool true])) (HP : Lib.parseIntB 64 h.data.toList = .ok (n : Int)) (hn : n ≤ 9223372036854775807) (h5 : n < 5) :
    Calls Tryd.prog 55 #[.string s] w (PaxNo s a w) := by
  have k1 := hE.cell
  have hlt := lt_of_cell' k1
  have hh2 : h.size ≤ 281474976710656 := by omega
  have hneq := fun w => run_neq_nil_nil_at (P := Tryd.prog) (w := w) 105 isErr
  unfold errV at k1
  clear hE
  go_enter Tryd.func55, Tryd.ntmps55
  go_wp2_with (first
    | (go_at_call 72; refine (zzCut1 _ _ _ (by omega)).mono ?_; rw [HC.out]; rintro e w' ⟨rfl, n1, rfl⟩)
    | (go_at_call 73; refine (parseInt_ok0 h _ _ hh2 HP).mono ?_; rintro e w1 ⟨rfl, hb1⟩))
  have HB1 : Hid (Below w.heap.size w w1) := Lib.hid ((below_drewN (Below.refl _ w) n1).trans hb1)
  have k2 := (HB1.out.cell (p := ⟨0, 0, none⟩) hlt).trans k1
  clear hb1
  go_wp2
  go_region_held3 (fun w' => w'.cell? ⟨0, 0, none⟩ = some (.iface 226 (.pointer (some a)))) (go_keep) (fail)
  go_wp2
  (try simp only [Exit.inBlock, Exit.then])
  refine bodyPost_ret (results_tmp4 rfl _ _ _) rfl ?_
  exact ⟨rfl, HB1.out.drew⟩

set_option maxRecDepth 20000 in
set_option maxHeartbeats 800000 in
theorem paxOver {C : Nat} {a : Addr} (s h t : ByteArray) (n : Nat) (w : World) (hs : s.size ≤ 281474976710656) (hh : h.size ≤ s.size) (hE : Err C w 0 a)
    (HC : Hid (cutV 32 s = .tuple #[.string h, .string t, .bool true])) (HP : Lib.parseIntB 64 h.data.toList = .ok (n : Int)) (hn : n ≤ 9223372036854775807) (h5 : 5 ≤ n) (ho : s.size < n) :
    Calls Tryd.prog 55 #[.string s] w (PaxNo s a w) := by
  have k1 := hE.cell
  have hlt := lt_of_cell' k1
  have hh2 : h.size ≤ 281474976710656 := by omega
  have hneq := fun w => run_neq_nil_nil_at (P := Tryd.prog) (w := w) 105 isErr
  unfold errV at k1
  clear hE
  go_enter Tryd.func55, Tryd.ntmps55
  go_wp2_with (first
    | (go_at_call 72; refine (zzCut1 _ _ _ (by omega)).mono ?_; rw [HC.out]; rintro e w' ⟨rfl, n1, rfl⟩)
    | (go_at_call 73; refine (parseInt_ok0 h _ _ hh2 HP).mono ?_; rintro e w1 ⟨rfl, hb1⟩))
  have HB1 : Hid (Below w.heap.size w w1) := Lib.hid ((below_drewN (Below.refl _ w) n1).trans hb1)
  have k2 := (HB1.out.cell (p := ⟨0, 0, none⟩) hlt).trans k1
  clear hb1
  go_wp2
  go_region_held3 (fun w' => w'.cell? ⟨0, 0, none⟩ = some (.iface 226 (.pointer (some a)))) (go_keep) (fail)
  go_wp2
  (try simp only [Exit.inBlock, Exit.then])
  refine bodyPost_ret (results_tmp4 rfl _ _ _) rfl ?_
  exact ⟨rfl, HB1.out.drew⟩

set_option maxRecDepth 20000 in
set_option maxHeartbeats 800000 in
theorem paxShort {C : Nat} {a : Addr} (s h t : ByteArray) (n : Nat) (w : World) (hs : s.size ≤ 281474976710656) (hh : h.size ≤ s.size) (hE : Err C w 0 a)
    (HC : Hid (cutV 32 s = .tuple #[.string h, .string t, .bool true])) (HP : Lib.parseIntB 64 h.data.toList = .ok (n : Int)) (hn : n ≤ 9223372036854775807) (h5 : 5 ≤ n) (ho : n ≤ s.size) (hq : n ≤ h.size + 1) :
    Calls Tryd.prog 55 #[.string s] w (PaxNo s a w) := by
  have k1 := hE.cell
  have hlt := lt_of_cell' k1
  have hh2 : h.size ≤ 281474976710656 := by omega
  have hneq := fun w => run_neq_nil_nil_at (P := Tryd.prog) (w := w) 105 isErr
  unfold errV at k1
  clear hE
  have u1 : IntKind.i64.wrap ((h.size : Int) + 1) = (h.size : Int) + 1 := IntWalk.i64_in _ (by omega)
  have u2 : IntKind.i64.wrap ((n : Int) - ((h.size : Int) + 1)) = (n : Int) - ((h.size : Int) + 1) := IntWalk.i64_in _ (by omega)
  have u3 : (n : Int) - ((h.size : Int) + 1) ≤ 0 := by omega
  go_enter Tryd.func55, Tryd.ntmps55
  go_wp2_with (first
    | (go_at_call 72; refine (zzCut1 _ _ _ (by omega)).mono ?_; rw [HC.out]; rintro e w' ⟨rfl, n1, rfl⟩)
    | (go_at_call 73; refine (parseInt_ok0 h _ _ hh2 HP).mono ?_; rintro e w1 ⟨rfl, hb1⟩))
  have HB1 : Hid (Below w.heap.size w w1) := Lib.hid ((below_drewN (Below.refl _ w) n1).trans hb1)
  have k2 := (HB1.out.cell (p := ⟨0, 0, none⟩) hlt).trans k1
  clear hb1
  go_wp2
  go_region_held3 (fun w' => w'.cell? ⟨0, 0, none⟩ = some (.iface 226 (.pointer (some a)))) (go_keep) (fail)
  go_wp2
  (try simp only [Exit.inBlock, Exit.then])
  refine bodyPost_ret (results_tmp4 rfl _ _ _) rfl ?_
  exact ⟨rfl, HB1.out.drew⟩

set_option maxRecDepth 20000 in
set_option maxHeartbeats 800000 in
theorem paxNl {C : Nat} {a : Addr} (s h t : ByteArray) (n : Nat) (w : World) (hs : s.size ≤ 281474976710656) (hh : h.size ≤ s.size) (hE : Err C w 0 a)
    (HC : Hid (cutV 32 s = .tuple #[.string h, .string t, .bool true])) (HP : Lib.parseIntB 64 h.data.toList = .ok (n : Int)) (hn : n ≤ 9223372036854775807) (h5 : 5 ≤ n) (ho : n ≤ s.size) (i j : Nat) (hj : j = i + 1) (hn2 : n = h.size + 1 + j) (ht : t.size + h.size + 1 = s.size) (hl : ((t.extract i j).toList == [10]) = false) :
    Calls Tryd.prog 55 #[.string s] w (PaxNo s a w) := by
  have k1 := hE.cell
  have hlt := lt_of_cell' k1
  have hh2 : h.size ≤ 281474976710656 := by omega
  have hneq := fun w => run_neq_nil_nil_at (P := Tryd.prog) (w := w) 105 isErr
  unfold errV at k1
  clear hE
  have u1 : IntKind.i64.wrap ((h.size : Int) + 1) = (h.size : Int) + 1 := IntWalk.i64_in _ (by omega)
  have u2 : IntKind.i64.wrap ((n : Int) - ((h.size : Int) + 1)) = (j : Int) := by rw [IntWalk.i64_in _ (by omega)]; omega
  have u3 : IntKind.i64.wrap ((j : Int) - 1) = (i : Int) := by rw [IntWalk.i64_in _ (by omega)]; omega
  have u4 : ¬ (j : Int) ≤ 0 := by omega
  have u5 : (0 : Int) ≤ (i : Int) := by omega
  have u6 : (i : Int) ≤ (j : Int) := by omega
  have u7 : (j : Int) ≤ (t.size : Int) := by omega
  have u8 : (i : Int) ≤ (t.size : Int) := by omega
  have u9 : (0 : Int) ≤ (j : Int) := by omega
  clear hj hn2
  go_enter Tryd.func55, Tryd.ntmps55
  go_wp2_with (first
    | (go_at_call 72; refine (zzCut1 _ _ _ (by omega)).mono ?_; rw [HC.out]; rintro e w' ⟨rfl, n1, rfl⟩)
    | (go_at_call 73; refine (parseInt_ok0 h _ _ hh2 HP).mono ?_; rintro e w1 ⟨rfl, hb1⟩))
  have HB1 : Hid (Below w.heap.size w w1) := Lib.hid ((below_drewN (Below.refl _ w) n1).trans hb1)
  have k2 := (HB1.out.cell (p := ⟨0, 0, none⟩) hlt).trans k1
  clear hb1
  go_wp2
  go_region_held3 (fun _ => True) (trivial) (fail)
  go_wp2
  go_region_held3 (fun w' => w'.cell? ⟨0, 0, none⟩ = some (.iface 226 (.pointer (some a)))) (go_keep) (fail)
  go_wp2
  (try simp only [Exit.inBlock, Exit.then])
  refine bodyPost_ret (results_tmp4 rfl _ _ _) rfl ?_
  exact ⟨rfl, below_drewN HB1.out 2⟩

set_option maxRecDepth 20000 in
set_option maxHeartbeats 800000 in
theorem paxNoEq {C : Nat} {a : Addr} (s h t : ByteArray) (n : Nat) (w : World) (hs : s.size ≤ 281474976710656) (hh : h.size ≤ s.size) (hE : Err C w 0 a)
    (HC : Hid (cutV 32 s = .tuple #[.string h, .string t, .bool true])) (HP : Lib.parseIntB 64 h.data.toList = .ok (n : Int)) (hn : n ≤ 9223372036854775807) (h5 : 5 ≤ n) (ho : n ≤ s.size) (i j : Nat) (hj : j = i + 1) (hn2 : n = h.size + 1 + j) (ht : t.size + h.size + 1 = s.size) (hl : ((t.extract i j).toList == [10]) = true) (m : ByteArray) (hm : t.extract 0 i = m) (hms : m.size ≤ 281474976710656) (HC2 : Hid (cutV 61 m = .tuple #[.string m, .string ⟨#[]⟩, .bool false])) :
    Calls Tryd.prog 55 #[.string s] w (PaxNo s a w) := by
  have k1 := hE.cell
  have hlt := lt_of_cell' k1
  have hh2 : h.size ≤ 281474976710656 := by omega
  have hneq := fun w => run_neq_nil_nil_at (P := Tryd.prog) (w := w) 105 isErr
  unfold errV at k1
  clear hE
  have u1 : IntKind.i64.wrap ((h.size : Int) + 1) = (h.size : Int) + 1 := IntWalk.i64_in _ (by omega)
  have u2 : IntKind.i64.wrap ((n : Int) - ((h.size : Int) + 1)) = (j : Int) := by rw [IntWalk.i64_in _ (by omega)]; omega
  have u3 : IntKind.i64.wrap ((j : Int) - 1) = (i : Int) := by rw [IntWalk.i64_in _ (by omega)]; omega
  have u4 : ¬ (j : Int) ≤ 0 := by omega
  have u5 : (0 : Int) ≤ (i : Int) := by omega
  have u6 : (i : Int) ≤ (j : Int) := by omega
  have u7 : (j : Int) ≤ (t.size : Int) := by omega
  have u8 : (i : Int) ≤ (t.size : Int) := by omega
  have u9 : (0 : Int) ≤ (j : Int) := by omega
  clear hj hn2
  go_enter Tryd.func55, Tryd.ntmps55
  go_wp2_with (first
    | (go_at_call 72; refine (zzCut1 _ _ _ (by omega)).mono ?_; rw [HC.out]; rintro e w' ⟨rfl, n1, rfl⟩)
    | (go_at_call 73; refine (parseInt_ok0 h _ _ hh2 HP).mono ?_; rintro e w1 ⟨rfl, hb1⟩))
  have HB1 : Hid (Below w.heap.size w w1) := Lib.hid ((below_drewN (Below.refl _ w) n1).trans hb1)
  have k2 := (HB1.out.cell (p := ⟨0, 0, none⟩) hlt).trans k1
  clear hb1
  go_wp2
  go_region_held3 (fun _ => True) (trivial) (fail)
  go_wp2_with (first
    | (go_at_call 72; refine (zzCut1 _ _ _ (by first | assumption | omega)).mono ?_; (first | rw [HC.out] | rw [HC2.out] | rw [hm, HC2.out]); rintro e w' ⟨rfl, n2, rfl⟩)
    | fail)
  go_region_held3 (fun w' => w'.cell? ⟨0, 0, none⟩ = some (.iface 226 (.pointer (some a)))) (go_keep) (fail)
  go_wp2
  (try simp only [Exit.inBlock, Exit.then])
  refine bodyPost_ret (results_tmp4 rfl _ _ _) rfl ?_
  exact ⟨rfl, (below_drewN HB1.out _).drew⟩

set_option maxRecDepth 20000 in
set_option maxHeartbeats 800000 in
theorem paxYes {C : Nat} {a : Addr} (s h t : ByteArray) (n : Nat) (w : World) (hs : s.size ≤ 281474976710656) (hh : h.size ≤ s.size) (hE : Err C w 0 a)
    (HC : Hid (cutV 32 s = .tuple #[.string h, .string t, .bool true])) (HP : Lib.parseIntB 64 h.data.toList = .ok (n : Int)) (hn : n ≤ 9223372036854775807) (h5 : 5 ≤ n) (ho : n ≤ s.size) (i j : Nat) (hj : j = i + 1) (hn2 : n = h.size + 1 + j) (ht : t.size + h.size + 1 = s.size) (hl : ((t.extract i j).toList == [10]) = true) (m k v r : ByteArray) (hm : t.extract 0 i = m) (hr : t.extract j t.size = r) (hms : m.size ≤ 281474976710656) (hks : k.size ≤ 281474976710656) (hvs : v.size ≤ 281474976710656) (HC2 : Hid (cutV 61 m = .tuple #[.string k, .string v, .bool true])) (nk : ¬ fc 0 k < k.size) (nv : ¬ fc 0 v < v.size) (HK : Hid (decide (k.size ≠ 0 ∧ ¬ fc 61 k < k.size) = true)) :
    Calls Tryd.prog 55 #[.string s] w (PaxYes k v r w) := by
  have k1 := hE.cell
  have hlt := lt_of_cell' k1
  have hh2 : h.size ≤ 281474976710656 := by omega
  have hneq := fun w => run_neq_nil_nil_at (P := Tryd.prog) (w := w) 105 isErr
  unfold errV at k1
  clear hE
  have u1 : IntKind.i64.wrap ((h.size : Int) + 1) = (h.size : Int) + 1 := IntWalk.i64_in _ (by omega)
  have u2 : IntKind.i64.wrap ((n : Int) - ((h.size : Int) + 1)) = (j : Int) := by rw [IntWalk.i64_in _ (by omega)]; omega
  have u3 : IntKind.i64.wrap ((j : Int) - 1) = (i : Int) := by rw [IntWalk.i64_in _ (by omega)]; omega
  have u4 : ¬ (j : Int) ≤ 0 := by omega
  have u5 : (0 : Int) ≤ (i : Int) := by omega
  have u6 : (i : Int) ≤ (j : Int) := by omega
  have u7 : (j : Int) ≤ (t.size : Int) := by omega
  have u8 : (i : Int) ≤ (t.size : Int) := by omega
  have u9 : (0 : Int) ≤ (j : Int) := by omega
  clear hj hn2
  have NK := Lib.hid nk
  have NV := Lib.hid nv
  clear nk nv
  go_enter Tryd.func55, Tryd.ntmps55
  go_wp2_with (first
    | (go_at_call 72; refine (zzCut1 _ _ _ (by omega)).mono ?_; rw [HC.out]; rintro e w' ⟨rfl, n1, rfl⟩)
    | (go_at_call 73; refine (parseInt_ok0 h _ _ hh2 HP).mono ?_; rintro e w1 ⟨rfl, hb1⟩))
  have HB1 : Hid (Below w.heap.size w w1) := Lib.hid ((below_drewN (Below.refl _ w) n1).trans hb1)
  have k2 := (HB1.out.cell (p := ⟨0, 0, none⟩) hlt).trans k1
  clear hb1
  go_wp2
  go_region_held3 (fun _ => True) (trivial) (fail)
  go_wp2_with (first
    | (go_at_call 72; refine (zzCut1 _ _ _ (by first | assumption | omega)).mono ?_; (first | rw [HC.out] | rw [HC2.out] | rw [hm, HC2.out]); rintro e w' ⟨rfl, n2, rfl⟩)
    | (go_at_call 62; refine (valid_ok k v _ (by omega) (by omega) NK.out NV.out).mono ?_; rw [HK.out]; rintro e w' ⟨rfl, rfl⟩))
  (try simp only [Exit.inBlock, Exit.then])
  refine bodyPost_ret (results_tmp4 rfl _ _ _) rfl ?_
  exact ⟨by (try rw [hr]); rfl, below_drewN HB1.out _⟩

theorem ba_ext {a b : ByteArray} (h : a.data.toList = b.data.toList) : a = b := by
  cases a; cases b
  simp at h
  rw [h]
theorem ext_ext (s : ByteArray) (a b c d : Nat) (h : a + d ≤ b) : (s.extract a b).extract c d = s.extract (a + c) (a + d) := by
  apply ba_ext
  rw [Lib.extract_data, Lib.extract_data, Lib.extract_data, List.drop_take, List.take_take, List.drop_drop]
  congr 1
  omega
theorem num_of {h : ByteArray} (hd : DecOk h) : Lib.parseIntB 64 h.data.toList = .ok (vl 0 h.data.toList : Int) ∧ vl 0 h.data.toList ≤ 9223372036854775807 := by
  have e := Lib.size_eq h
  have h1 := hd.1
  exact ⟨intB_plain (fun hn => by rw [hn, List.length_nil] at e; omega) hd.2.2.1 hd.2.2.2, hd.2.2.2⟩
/-- What lies behind the blank. -/
theorem tail_facts (s h : ByteArray) (n : Nat) (hc : fc 32 s < s.size) (hh : h = s.extract 0 (fc 32 s)) (hle : n ≤ s.size) (hgt : h.size + 1 < n) :
    ∃ t i j, cutV 32 s = .tuple #[.string h, .string t, .bool true] ∧ j = i + 1 ∧ n = h.size + 1 + j ∧ t.size + h.size + 1 = s.size ∧ ((t.extract i j).toList == [10]) = decide (bt s (n - 1) = 10) ∧
      t.extract 0 i = s.extract (h.size + 1) (n - 1) ∧ t.extract j t.size = s.extract n s.size := by
  have hz : h.size = fc 32 s := by rw [hh, ext_size _ _ _ (by omega)]; omega
  have ts : (s.extract (h.size + 1) s.size).size = s.size - (h.size + 1) := ext_size _ _ _ (Nat.le_refl _)
  refine ⟨s.extract (h.size + 1) s.size, n - (h.size + 1) - 1, n - (h.size + 1), ?_, by omega, by omega, by omega, ?_, ?_, ?_⟩
  · unfold cutV; rw [if_pos hc, ← hh, hz]
  · have := piece1 (s.extract (h.size + 1) s.size) 10 (n - (h.size + 1) - 1) (by omega)
    rw [show n - (h.size + 1) - 1 + 1 = n - (h.size + 1) by omega, bt_ext _ _ _ _ (Nat.le_refl _) (by omega), show h.size + 1 + (n - (h.size + 1) - 1) = n - 1 by omega] at this
    exact this
  · rw [ext_ext _ _ _ _ _ (by omega)]
    congr 1
    omega
  · rw [ts, ext_ext _ _ _ _ _ (by omega)]
    congr 1 <;> omega
theorem pax_yes {C : Nat} {a : Addr} {s h : ByteArray} {n : Nat} {m k v r : ByteArray} (H : IsRec s h n m k v r) (w : World) (hs : s.size ≤ 281474976710656) (hE : Err C w 0 a) (nk : ¬ fc 0 k < k.size) (nv : ¬ fc 0 v < v.size) :
    Calls Tryd.prog 55 #[.string s] w (PaxYes k v r w) := by
  obtain ⟨t, i, j, f1, f2, f3, f4, f5, f6, f7⟩ := tail_facts s h n H.cut H.hd H.le H.gt
  obtain ⟨p1, p2⟩ := num_of H.dec
  rw [← H.num] at p1 p2
  have hle := H.le
  have hgt := H.gt
  have ms : m.size = n - 1 - (h.size + 1) := by rw [H.mid, ext_size _ _ _ (by omega)]
  have m1 := H.eq
  have m2 := H.pos
  have ks : k.size = fc 61 m := by rw [H.key, ext_size _ _ _ (by omega)]; omega
  have vs : v.size = m.size - (fc 61 m + 1) := by rw [H.val, ext_size _ _ _ (Nat.le_refl _)]
  have hok := H.ok
  unfold headBad at hok
  have hk61 : ¬ fc 61 k < k.size := by
    intro hlt
    have h1 := (fc_lt_bt 61 k hlt).1
    have h2 := (fc_lt_bt 61 m m1).2 (fc 61 k) (by omega)
    rw [H.key, bt_ext _ _ _ _ (by omega) (by rw [← H.key]; omega), ← H.key, Nat.zero_add] at h1
    exact h2 h1
  refine paxYes s h t n w hs (by omega) hE (Lib.hid f1) p1 p2 (by omega) hle i j f2 f3 f4 ?_ m k v r (f6.trans H.mid.symm) (f7.trans H.rest.symm) (by omega) (by omega) (by omega) (Lib.hid ?_) nk nv (Lib.hid (decide_eq_true ⟨by omega, hk61⟩))
  · rw [f5]; exact decide_eq_true H.nl
  · unfold cutV; rw [if_pos m1, ← H.key, ← H.val]
theorem pax_no {B C : Nat} {a a1 a2 : Addr} {s : ByteArray} (hv : (readV s).v = 2) (w : World) (hs : s.size ≤ 281474976710656) (hE : Err C w 0 a) (h1 : Err B w 6 a1) (h2 : Err B w 7 a2) :
    Calls Tryd.prog 55 #[.string s] w (PaxNo s a w) := by
  by_cases c1 : fc 32 s < s.size
  case neg => exact paxNoCut s w hs hE c1
  unfold readV at hv
  rw [if_pos c1] at hv
  obtain ⟨h, hh⟩ : ∃ h, h = s.extract 0 (fc 32 s) := ⟨_, rfl⟩
  rw [← hh] at hv
  have hz : h.size = fc 32 s := by rw [hh, ext_size _ _ _ (by omega)]; omega
  unfold headV at hv
  by_cases c2 : headBad h
  · rw [if_pos c2] at hv; simp [rv0] at hv
  rw [if_neg c2] at hv
  have HCt : cutV 32 s = .tuple #[.string h, .string (s.extract (fc 32 s + 1) s.size), .bool true] := by unfold cutV; rw [if_pos c1, ← hh]
  by_cases c3 : DecOk h
  case neg =>
    rw [if_pos c3] at hv
    by_cases c4 : DigOk h
    · rw [if_pos c4] at hv; simp [rv0] at hv
    · refine paxNoNum s h _ w hs (by omega) hE h1 h2 (Lib.hid HCt) c2 (fun hd => c4 ⟨?_, hd⟩)
      unfold headBad at c2
      omega
  rw [if_neg (not_not_intro c3)] at hv
  obtain ⟨p1, p2⟩ := num_of c3
  obtain ⟨n, hn⟩ : ∃ n, vl 0 h.data.toList = n := ⟨_, rfl⟩
  rw [hn] at hv p1 p2
  by_cases n5 : n < 5
  · exact paxFive s h _ n w hs (by omega) hE (Lib.hid HCt) p1 p2 n5
  by_cases no : s.size < n
  · exact paxOver s h _ n w hs (by omega) hE (Lib.hid HCt) p1 p2 (by omega) no
  by_cases nq : n ≤ h.size + 1
  · exact paxShort s h _ n w hs (by omega) hE (Lib.hid HCt) p1 p2 (by omega) (by omega) nq
  obtain ⟨t, i, j, f1, f2, f3, f4, f5, f6, f7⟩ := tail_facts s h n c1 hh (by omega) (by omega)
  by_cases nl : bt s (n - 1) = 10
  case neg => exact paxNl s h t n w hs (by omega) hE (Lib.hid f1) p1 p2 (by omega) (by omega) i j f2 f3 f4 (by rw [f5]; exact decide_eq_false nl)
  have hnb : ¬ NumBad s h.size n := by unfold NumBad; omega
  rw [if_neg hnb] at hv
  unfold midV at hv
  by_cases c5 : fc 61 (s.extract (h.size + 1) (n - 1)) < (s.extract (h.size + 1) (n - 1)).size
  · rw [if_neg (not_not_intro c5)] at hv
    by_cases c6 : fc 61 (s.extract (h.size + 1) (n - 1)) = 0
    · rw [if_pos c6] at hv; simp [rv0] at hv
    · rw [if_neg c6] at hv; simp at hv
  · refine paxNoEq s h t n w hs (by omega) hE (Lib.hid f1) p1 p2 (by omega) (by omega) i j f2 f3 f4 (by rw [f5]; exact decide_eq_true nl) _ f6 (by rw [ext_size _ _ _ (by omega)]; omega) (Lib.hid ?_)
    unfold cutV; rw [if_neg c5]
end Go.Proofs.YtlchagphjmfooaaDoor
