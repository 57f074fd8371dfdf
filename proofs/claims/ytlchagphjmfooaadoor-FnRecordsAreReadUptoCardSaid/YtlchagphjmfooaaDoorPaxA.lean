/- parsePAXRecord at any string: it ends, with a record or with ErrHeader. (Printed by wip/gen_paxa.py out of XPax.) -/
import Derived.Test.YtlchagphjmfooaaDoorRecLaw
namespace Go.Proofs.YtlchagphjmfooaaDoor
open Go.RowKit Go.PlainAid
set_option linter.unusedVariables false

set_option maxRecDepth 20000 in
set_option maxHeartbeats 1600000 in
theorem valid_any (k v : ByteArray) (w : World) (hk : k.size ≤ 4611686018427387904) (hv : v.size ≤ 4611686018427387904) :
    Calls Tryd.prog 62 #[.string k, .string v] w fun e w' => ∃ b, e = .returned (.bool b) ∧ w = w' := by
  obtain ⟨b1, hb1⟩ : ∃ b, decide (fc 0 k < k.size) = b := ⟨_, rfl⟩
  obtain ⟨b2, hb2⟩ : ∃ b, decide (fc 0 v < v.size) = b := ⟨_, rfl⟩
  have N1 := Lib.hid hb1
  have N2 := Lib.hid hb2
  clear hb1 hb2
  by_cases h0 : k.size = 0
  · obtain ⟨e1, e2⟩ := empty_yes h0
    clear h0
    go_enter Tryd.func62, Tryd.ntmps62
    go_wp2_with (fail)
    go_ret
    exact ⟨_, rfl, rfl⟩
  obtain ⟨e1, e2⟩ := empty_no h0
  by_cases hq : fc 61 k < k.size
  · have HQ : Hid (decide (fc 61 k < k.size) = true) := Lib.hid (decide_eq_true hq)
    clear h0 hq
    go_enter Tryd.func62, Tryd.ntmps62
    go_wp2_with (go_at_call 79; refine (zzContains1 k 61 w hk).mono ?_; rw [HQ.out]; rintro e w' ⟨rfl, rfl⟩)
    go_ret
    exact ⟨_, rfl, rfl⟩
  · have HQ : Hid (decide (fc 61 k < k.size) = false) := Lib.hid (decide_eq_false hq)
    clear h0 hq
    go_enter Tryd.func62, Tryd.ntmps62
    go_wp2_with (first
      | (go_at_call 79; refine (zzContains1 k 61 w hk).mono ?_; rw [HQ.out]; rintro e w' ⟨rfl, rfl⟩)
      | (go_at_call 80; refine (pubHasNUL _ w (by assumption)).mono ?_; (first | rw [N1.out] | rw [N2.out]); rintro e w' ⟨rfl, rfl⟩))
    all_goals
      go_ret
      exact ⟨_, rfl, rfl⟩

set_option maxRecDepth 20000 in
set_option maxHeartbeats 800000 in
theorem paxNumA {B C : Nat} {a a1 a2 : Addr} (s h t : ByteArray) (w : World) (hs : s.size ≤ 281474976710656) (hh : h.size ≤ s.size) (hE : Err C w 0 a) (h1 : Err B w 6 a1) (h2 : Err B w 7 a2)
    (HC : Hid (cutV 32 s = .tuple #[.string h, .string t, .bool true])) (HP : ∀ v, Lib.parseIntB 64 h.data.toList ≠ .ok v) :
    Calls Tryd.prog 55 #[.string s] w (PaxNo s a w) := by
  have k1 := hE.cell
  have hlt := lt_of_cell' k1
  have H1 := Lib.hid h1
  have H2 := Lib.hid h2
  have hh2 : h.size ≤ 281474976710656 := by omega
  have hneq := fun w x => run_neq_iface_nil (P := Tryd.prog) (w := w) 105 isErr 188 x
  unfold errV at k1
  clear hE h1 h2
  go_enter Tryd.func55, Tryd.ntmps55
  go_wp2_with (first
    | (go_at_call 72; refine (zzCut1 _ _ _ (by omega)).mono ?_; rw [HC.out]; rintro e w' ⟨rfl, n1, rfl⟩)
    | (go_at_call 73; refine (parseInt_no0 (B := B) h _ hh2 HP (by exact ⟨H1.out.cell, H1.out.blk, H1.out.lg, H1.out.la⟩) (by exact ⟨H2.out.cell, H2.out.blk, H2.out.lg, H2.out.la⟩)).mono ?_; rintro e w1 ⟨x, N, rfl, hb1⟩))
  have HB1 : Hid (Below w.heap.size w w1) := Lib.hid ((below_drewN (Below.refl _ w) n1).trans hb1)
  have k2 := (HB1.out.cell (p := ⟨0, 0, none⟩) hlt).trans k1
  clear hb1
  go_wp2
  go_region_held3 (fun w' => w'.cell? ⟨0, 0, none⟩ = some (.iface 226 (.pointer (some a)))) (go_keep) (fail)
  go_wp2
  (try simp only [Exit.inBlock, Exit.then])
  refine bodyPost_ret (results_tmp4 rfl _ _ _) rfl ?_
  exact ⟨rfl, HB1.out.drew⟩

set_option maxRecDepth 20000 in
set_option maxHeartbeats 800000 in
theorem paxFiveA {C : Nat} {a : Addr} (s h t : ByteArray) (n : Int) (w : World) (hs : s.size ≤ 281474976710656) (hh : h.size ≤ s.size) (hE : Err C w 0 a)
    (HC : Hid (cutV 32 s = .tuple #[.string h, .string t, .bool true])) (HP : Lib.parseIntB 64 h.data.toList = .ok n) (hn0 : -9223372036854775808 ≤ n) (hn : n ≤ 9223372036854775807) (h5 : n < 5) :
    Calls Tryd.prog 55 #[.string s] w (PaxNo s a w) := by
  have k1 := hE.cell
  have hlt := lt_of_cell' k1
  have hh2 : h.size ≤ 281474976710656 := by omega
  have hneq := fun w => run_neq_nil_nil_at (P := Tryd.prog) (w := w) 105 isErr
  unfold errV at k1
  clear hE
  go_enter Tryd.func55, Tryd.ntmps55
  go_wp2_with (first
    | (go_at_call 72; refine (zzCut1 _ _ _ (by omega)).mono ?_; rw [HC.out]; rintro e w' ⟨rfl, n1, rfl⟩)
    | (go_at_call 73; refine (parseInt_ok0 h _ _ hh2 HP).mono ?_; rintro e w1 ⟨rfl, hb1⟩))
  have HB1 : Hid (Below w.heap.size w w1) := Lib.hid ((below_drewN (Below.refl _ w) n1).trans hb1)
  have k2 := (HB1.out.cell (p := ⟨0, 0, none⟩) hlt).trans k1
  clear hb1
  go_wp2
  go_region_held3 (fun w' => w'.cell? ⟨0, 0, none⟩ = some (.iface 226 (.pointer (some a)))) (go_keep) (fail)
  go_wp2
  (try simp only [Exit.inBlock, Exit.then])
  refine bodyPost_ret (results_tmp4 rfl _ _ _) rfl ?_
  exact ⟨rfl, HB1.out.drew⟩

set_option maxRecDepth 20000 in
set_option maxHeartbeats 800000 in
theorem paxEnd {C : Nat} {a : Addr} (s h t : ByteArray) (n : Nat) (w : World) (hs : s.size ≤ 281474976710656) (hh : h.size ≤ s.size) (hE : Err C w 0 a)
    (HC : Hid (cutV 32 s = .tuple #[.string h, .string t, .bool true])) (HP : Lib.parseIntB 64 h.data.toList = .ok (n : Int)) (hn : n ≤ 9223372036854775807) (h5 : 5 ≤ n) (ho : n ≤ s.size) (i j : Nat) (hj : j = i + 1) (hn2 : n = h.size + 1 + j) (ht : t.size + h.size + 1 = s.size) (hl : ((t.extract i j).toList == [10]) = true) (m k v r : ByteArray) (hm : t.extract 0 i = m) (hr : t.extract j t.size = r) (hms : m.size ≤ 281474976710656) (hks : k.size ≤ 281474976710656) (hvs : v.size ≤ 281474976710656) (HC2 : Hid (cutV 61 m = .tuple #[.string k, .string v, .bool true])) :
    Calls Tryd.prog 55 #[.string s] w (fun e w' => PaxYes k v r w e w' ∨ PaxNo s a w e w') := by
  have k1 := hE.cell
  have hlt := lt_of_cell' k1
  have hh2 : h.size ≤ 281474976710656 := by omega
  have hneq := fun w => run_neq_nil_nil_at (P := Tryd.prog) (w := w) 105 isErr
  unfold errV at k1
  clear hE
  have u1 : IntKind.i64.wrap ((h.size : Int) + 1) = (h.size : Int) + 1 := IntWalk.i64_in _ (by omega)
  have u2 : IntKind.i64.wrap ((n : Int) - ((h.size : Int) + 1)) = (j : Int) := by rw [IntWalk.i64_in _ (by omega)]; omega
  have u3 : IntKind.i64.wrap ((j : Int) - 1) = (i : Int) := by rw [IntWalk.i64_in _ (by omega)]; omega
  have u4 : ¬ (j : Int) ≤ 0 := by omega
  have u5 : (0 : Int) ≤ (i : Int) := by omega
  have u6 : (i : Int) ≤ (j : Int) := by omega
  have u7 : (j : Int) ≤ (t.size : Int) := by omega
  have u8 : (i : Int) ≤ (t.size : Int) := by omega
  have u9 : (0 : Int) ≤ (j : Int) := by omega
  clear hj hn2
  go_enter Tryd.func55, Tryd.ntmps55
  go_wp2_with (first
    | (go_at_call 72; refine (zzCut1 _ _ _ (by omega)).mono ?_; rw [HC.out]; rintro e w' ⟨rfl, n1, rfl⟩)
    | (go_at_call 73; refine (parseInt_ok0 h _ _ hh2 HP).mono ?_; rintro e w1 ⟨rfl, hb1⟩))
  have HB1 : Hid (Below w.heap.size w w1) := Lib.hid ((below_drewN (Below.refl _ w) n1).trans hb1)
  have k2 := (HB1.out.cell (p := ⟨0, 0, none⟩) hlt).trans k1
  clear hb1
  go_wp2
  go_region_held3 (fun _ => True) (trivial) (fail)
  go_wp2_with (first
    | (go_at_call 72; refine (zzCut1 _ _ _ (by first | assumption | omega)).mono ?_; (first | rw [HC.out] | rw [HC2.out] | rw [hm, HC2.out]); rintro e w' ⟨rfl, n2, rfl⟩)
    | fail)
  refine (valid_any k v _ (by omega) (by omega)).mono ?_
  rintro e w2 ⟨b, rfl, rfl⟩
  cases b with
  | true =>
    go_wp2
    (try simp only [Exit.inBlock, Exit.then])
    refine bodyPost_ret (results_tmp4 rfl _ _ _) rfl ?_
    exact .inl ⟨by (try rw [hr]); rfl, below_drewN HB1.out _⟩
  | false =>
    go_wp2
    go_region_held3 (fun w' => w'.cell? ⟨0, 0, none⟩ = some (.iface 226 (.pointer (some a)))) (go_keep) (fail)
    go_wp2
    (try simp only [Exit.inBlock, Exit.then])
    refine bodyPost_ret (results_tmp4 rfl _ _ _) rfl ?_
    exact .inr ⟨rfl, (below_drewN HB1.out _).drew⟩

/-- What parsePAXRecord gives, whatever the string. -/
def PaxAny (s : ByteArray) (a : Addr) (w : World) (e : Ending) (w' : World) : Prop :=
  (∃ k v r : ByteArray, PaxYes k v r w e w' ∧ r.size < s.size ∧ k.size ≤ s.size ∧ v.size ≤ s.size) ∨ PaxNo s a w e w'
theorem pax_any {B C : Nat} {a a1 a2 : Addr} (s : ByteArray) (w : World) (hs : s.size ≤ 281474976710656) (hE : Err C w 0 a) (h1 : Err B w 6 a1) (h2 : Err B w 7 a2) :
    Calls Tryd.prog 55 #[.string s] w (PaxAny s a w) := by
  by_cases c1 : fc 32 s < s.size
  case neg => exact (paxNoCut s w hs hE c1).mono fun _ _ h => .inr h
  obtain ⟨h, hh⟩ : ∃ h, h = s.extract 0 (fc 32 s) := ⟨_, rfl⟩
  have hz : h.size = fc 32 s := by rw [hh, ext_size _ _ _ (by omega)]; omega
  have HCt : cutV 32 s = .tuple #[.string h, .string (s.extract (fc 32 s + 1) s.size), .bool true] := by unfold cutV; rw [if_pos c1, ← hh]
  by_cases hp : ∃ x, Lib.parseIntB 64 h.data.toList = .ok x
  case neg => exact (paxNumA s h _ w hs (by omega) hE h1 h2 (Lib.hid HCt) (fun v hv => hp ⟨v, hv⟩)).mono fun _ _ h => .inr h
  obtain ⟨x, hx⟩ := hp
  have hb := Lib.parseIntB_bounds hx
  have e63 : ((2 ^ (64 - 1) : Nat) : Int) = 9223372036854775808 := by decide
  rw [e63] at hb
  by_cases h5 : x < 5
  · exact (paxFiveA s h _ x w hs (by omega) hE (Lib.hid HCt) hx (by omega) (by omega) h5).mono fun _ _ h => .inr h
  obtain ⟨n, rfl⟩ : ∃ n : Nat, x = (n : Int) := ⟨x.toNat, by omega⟩
  have hn : n ≤ 9223372036854775807 := by omega
  by_cases ho : s.size < n
  · exact (paxOver s h _ n w hs (by omega) hE (Lib.hid HCt) hx hn (by omega) ho).mono fun _ _ h => .inr h
  by_cases hq : n ≤ h.size + 1
  · exact (paxShort s h _ n w hs (by omega) hE (Lib.hid HCt) hx hn (by omega) (by omega) hq).mono fun _ _ h => .inr h
  obtain ⟨t, i, j, f1, f2, f3, f4, f5, f6, f7⟩ := tail_facts s h n c1 hh (by omega) (by omega)
  by_cases hl : ((t.extract i j).toList == [10]) = true
  case neg => exact (paxNl s h t n w hs (by omega) hE (Lib.hid f1) hx hn (by omega) (by omega) i j f2 f3 f4 (by simpa using hl)).mono fun _ _ h => .inr h
  obtain ⟨m, hm⟩ : ∃ m, t.extract 0 i = m := ⟨_, rfl⟩
  have ms : m.size = i := by rw [← hm, ext_size _ _ _ (by omega)]; omega
  by_cases hc : fc 61 m < m.size
  · have hr : (t.extract j t.size).size = t.size - j := ext_size _ _ _ (Nat.le_refl _)
    have hk : (m.extract 0 (fc 61 m)).size = fc 61 m := by rw [ext_size _ _ _ (by omega)]; omega
    have hv : (m.extract (fc 61 m + 1) m.size).size = m.size - (fc 61 m + 1) := ext_size _ _ _ (Nat.le_refl _)
    refine (paxEnd s h t n w hs (by omega) hE (Lib.hid f1) hx hn (by omega) (by omega) i j f2 f3 f4 hl m (m.extract 0 (fc 61 m)) (m.extract (fc 61 m + 1) m.size) (t.extract j t.size) hm rfl (by omega) (by omega) (by omega) (Lib.hid (by unfold cutV; rw [if_pos hc]))).mono ?_
    rintro e w' (H | H)
    · exact .inl ⟨_, _, _, H, by omega, by omega, by omega⟩
    · exact .inr H
  · exact (paxNoEq s h t n w hs (by omega) hE (Lib.hid f1) hx hn (by omega) (by omega) i j f2 f3 f4 hl m hm (by omega) (Lib.hid (by unfold cutV; rw [if_neg hc]))).mono fun _ _ h => .inr h
end Go.Proofs.YtlchagphjmfooaaDoor
