/- Walks of ZZRecord, impl.ReadRecord, FnReadRecord. -/
import Derived.Test.YtlchagphjmfooaaDoorPax
namespace Go.Proofs.YtlchagphjmfooaaDoor
open Go.RowKit Go.PlainAid
set_option linter.unusedVariables false

set_option maxRecDepth 20000 in
set_option maxHeartbeats 800000 in
theorem zz_yes {C : Nat} {a : Addr} {s h : ByteArray} {n : Nat} {m k v r : ByteArray} (H : IsRec s h n m k v r) (w : World) (hs : s.size ≤ 281474976710656) (hE : Err C w 0 a) (nk : ¬ fc 0 k < k.size) (nv : ¬ fc 0 v < v.size) :
    Calls Tryd.prog 39 #[.string s] w fun e w' => e = .returned (.tuple #[.string k, .string v, .string r, .bool true]) ∧ Below w.heap.size w w' := by
  have HP := Lib.hid (pax_yes H w hs hE nk nv)
  have hneq := fun w => run_eql_nil_nil_at (P := Tryd.prog) (w := w) 105 isErr
  clear H nk nv hE
  go_enter Tryd.func39, Tryd.ntmps39
  go_wp2_with (go_at_call 55; refine HP.out.mono ?_; rintro e w1 ⟨rfl, hb1⟩)
  have HB1 := Lib.hid hb1
  clear hb1
  go_wp2
  go_region_held3 (fun _ => True) (trivial) (fail)
  go_wp2
  (try simp only [Exit.inBlock, Exit.then])
  refine bodyPost_ret (results_tmp4 rfl _ _ _) rfl ?_
  exact ⟨rfl, HB1.out.drew⟩
set_option maxRecDepth 20000 in
set_option maxHeartbeats 800000 in
theorem zz_no {B C : Nat} {a a1 a2 : Addr} {s : ByteArray} (hv : (readV s).v = 2) (w : World) (hs : s.size ≤ 281474976710656) (hE : Err C w 0 a) (h1 : Err B w 6 a1) (h2 : Err B w 7 a2) :
    Calls Tryd.prog 39 #[.string s] w fun e w' => e = .returned (.tuple #[.string ⟨#[]⟩, .string ⟨#[]⟩, .string s, .bool false]) ∧ Below w.heap.size w w' := by
  have HP := Lib.hid (pax_no hv w hs hE h1 h2)
  have hneq := fun w x => run_eql_iface_nil (P := Tryd.prog) (w := w) 105 isErr 226 x
  clear hv hE h1 h2
  go_enter Tryd.func39, Tryd.ntmps39
  go_wp2_with (go_at_call 55; refine HP.out.mono ?_; unfold PaxNo errV; rintro e w1 ⟨rfl, hb1⟩)
  have HB1 := Lib.hid hb1
  clear hb1
  go_wp2
  go_region_held3 (fun _ => True) (trivial) (fail)
  go_wp2
  (try simp only [Exit.inBlock, Exit.then])
  refine bodyPost_ret (results_tmp4 rfl _ _ _) rfl ?_
  exact ⟨rfl, HB1.out.drew⟩
theorem implRecInfo : (Tryd.prog.info? 27).map (·.size) = some 2 := by kernel_rfl

set_option maxRecDepth 20000 in
set_option maxHeartbeats 800000 in
theorem impl_of (s k v r : ByteArray) (b : Bool) (w : World)
    (HP : ∀ w', Below w.heap.size w w' → Calls Tryd.prog 39 #[.string s] w' fun e w2 => e = .returned (.tuple #[.string k, .string v, .string r, .bool b]) ∧ Below w'.heap.size w' w2) :
    Calls Tryd.prog 16 #[.string s] w fun e w' => e = .returned (.tuple #[.agg #[.string k, .string v], .string r, .bool b]) ∧ Below w.heap.size w w' := by
  have HQ := Lib.hid HP
  clear HP
  go_enter Tryd.func16, Tryd.ntmps16
  go_wp2_with (
    go_at_call 39
    refine (HQ.out _ ((Below.refl _ w).alloc (Nat.le_refl _) _)).mono ?_
    rintro e w1 ⟨rfl, hb1⟩
    have HB0 : Hid (Blk w1 w.heap.size 27 [.string ⟨#[]⟩, .string ⟨#[]⟩]) := Lib.hid ((Blk.new w _ [_, _]).below hb1 (Blk.new w 27 [.string ⟨#[]⟩, .string ⟨#[]⟩]).lt)
    have c0 : w1.cell? ⟨w.heap.size, 0, none⟩ = some (.string ⟨#[]⟩) := by rw [HB0.out.cell]; rfl
    have c1 : w1.cell? ⟨w.heap.size, 1, none⟩ = some (.string ⟨#[]⟩) := by rw [HB0.out.cell]; rfl
    have f0 := HB0.out.frozen 0
    have f1 := HB0.out.frozen 1
    have HB1 : Hid (Below w.heap.size w w1) := Lib.hid (((Below.refl _ w).alloc (Nat.le_refl _) _).trans (hb1.mono (Nat.le_of_lt (Blk.new w 27 [.string ⟨#[]⟩, .string ⟨#[]⟩]).lt)))
    clear hb1)
  refine bodyPost_ret (results_row_tmp2 rfl _ _ w.heap.size _ [.string k, .string v] _ rfl ((HB0.out.set_ 0 _).set_ 1 _) Tryd.underlying27 rfl implRecInfo) rfl ?_
  exact ⟨rfl, (HB1.out.setCell (Nat.le_refl _) _).setCell (Nat.le_refl _) _⟩

theorem specRead' (s k v r : ByteArray) (x : Int) (w : World) (hs : s.size ≤ 4611686018427387904) (HV : Hid (readV s = ⟨k, v, r, x⟩)) :
    Calls Tryd.prog 14 #[.string s] w fun e w' => e = .returned (.tuple #[.agg #[.string k, .string v], .string r, .int .i64 x]) ∧ Below w.heap.size w w' := by
  have h := specRead s w hs
  rw [HV.out] at h
  exact h
theorem specNUL (s : ByteArray) (b : Bool) (w : World) (hs : s.size ≤ 4611686018427387904) (HN : Hid (decide (fc 0 s < s.size) = b)) :
    Calls Tryd.prog 15 #[.string s] w fun e w' => e = .returned (.bool b) ∧ w = w' := by
  rw [← HN.out]; exact specHasNUL s w hs
theorem two_blk0 (w : World) (T : TypeId) (a b : Value) : Blk (w.alloc (.cells #[a, b] T)) w.heap.size T [a, b] := Blk.new w T [a, b]
theorem readV_sizes (s : ByteArray) : (readV s).key.size ≤ s.size ∧ (readV s).value.size ≤ s.size ∧ ((readV s).v = 0 ∨ (readV s).v = 1 ∨ (readV s).v = 2) := by
  have hx : ∀ (a : ByteArray) (i j : Nat), (a.extract i j).size ≤ a.size := fun a i j => by rw [ByteArray.size_extract]; omega
  have h0 : ∀ x, x = 0 ∨ x = 1 ∨ x = 2 → (rv0 x).key.size ≤ s.size ∧ (rv0 x).value.size ≤ s.size ∧ ((rv0 x).v = 0 ∨ (rv0 x).v = 1 ∨ (rv0 x).v = 2) := fun x hx => ⟨Nat.zero_le _, Nat.zero_le _, hx⟩
  have hm : ∀ (m r : ByteArray), m.size ≤ s.size → (midV m r).key.size ≤ s.size ∧ (midV m r).value.size ≤ s.size ∧ ((midV m r).v = 0 ∨ (midV m r).v = 1 ∨ (midV m r).v = 2) := by
    intro m r hms
    unfold midV
    split
    · exact h0 2 (by omega)
    · split
      · exact h0 0 (by omega)
      · exact ⟨Nat.le_trans (hx _ _ _) hms, Nat.le_trans (hx _ _ _) hms, by simp⟩
  unfold readV
  split
  · unfold headV
    split
    · exact h0 0 (by omega)
    · split
      · split
        · exact h0 0 (by omega)
        · exact h0 2 (by omega)
      · split
        · exact h0 2 (by omega)
        · exact hm _ _ (hx _ _ _)
  · exact h0 2 (by omega)
theorem readV_no (s : ByteArray) (h : (readV s).v = 2) : readV s = ⟨⟨#[]⟩, ⟨#[]⟩, ⟨#[]⟩, 2⟩ := by
  have h0 : ∀ x, (rv0 x).v = 2 → rv0 x = ⟨⟨#[]⟩, ⟨#[]⟩, ⟨#[]⟩, 2⟩ := fun x hx => by
    have : x = 2 := hx
    rw [this]; rfl
  have hm : ∀ (m r : ByteArray), (midV m r).v = 2 → midV m r = ⟨⟨#[]⟩, ⟨#[]⟩, ⟨#[]⟩, 2⟩ := by
    intro m r
    unfold midV
    split
    · exact h0 _
    · split
      · exact h0 _
      · intro h; simp at h
  revert h
  unfold readV
  split
  · unfold headV
    split
    · exact h0 _
    · split
      · split
        · exact h0 _
        · exact h0 _
      · split
        · exact h0 _
        · exact hm _ _
  · exact h0 _

set_option maxRecDepth 20000 in
set_option maxHeartbeats 800000 in
theorem fnRead_open (s k v r : ByteArray) (w : World) (hs : s.size ≤ 2147483647) (HV : Hid (readV s = ⟨k, v, r, 0⟩)) :
    Calls Tryd.prog 3 #[.string s] w fun e w' => e = .returned (.bool true) ∧ Below w.heap.size w w' := by
  have hs2 : s.size ≤ 4611686018427387904 := by omega
  go_enter Tryd.func3, Tryd.ntmps3
  go_wp2_with (
      go_at_call 14
      refine (specRead' s _ _ _ _ _ hs2 HV).mono ?_
      rintro e w1 ⟨rfl, hb1⟩
      have HB1 := Lib.hid hb1
      clear hb1)
  go_ret
  exact ⟨rfl, HB1.out.alloc HB1.out.size _⟩
set_option maxRecDepth 20000 in
set_option maxHeartbeats 800000 in
theorem fnRead_nul1 (s k v r : ByteArray) (w : World) (hs : s.size ≤ 2147483647) (HV : Hid (readV s = ⟨k, v, r, 1⟩)) (hk : k.size ≤ s.size) (HN : Hid (decide (fc 0 k < k.size) = true)) :
    Calls Tryd.prog 3 #[.string s] w fun e w' => e = .returned (.bool true) ∧ Below w.heap.size w w' := by
  have hs2 : s.size ≤ 4611686018427387904 := by omega
  go_enter Tryd.func3, Tryd.ntmps3
  go_wp2_with (first
    | (
      go_at_call 14
      refine (specRead' s _ _ _ _ _ hs2 HV).mono ?_
      rintro e w1 ⟨rfl, hb1⟩
      have HB1 := Lib.hid hb1
      clear hb1)
    | (go_at_call 15; refine (specNUL k _ _ (by omega) HN).mono ?_; rintro e w' ⟨rfl, rfl⟩))
  go_ret
  exact ⟨rfl, HB1.out.alloc HB1.out.size _⟩
set_option maxRecDepth 20000 in
set_option maxHeartbeats 800000 in
theorem fnRead_nul2 (s k v r : ByteArray) (w : World) (hs : s.size ≤ 2147483647) (HV : Hid (readV s = ⟨k, v, r, 1⟩)) (hk : k.size ≤ s.size) (hv : v.size ≤ s.size) (HN : Hid (decide (fc 0 k < k.size) = false)) (HN2 : Hid (decide (fc 0 v < v.size) = true)) :
    Calls Tryd.prog 3 #[.string s] w fun e w' => e = .returned (.bool true) ∧ Below w.heap.size w w' := by
  have hs2 : s.size ≤ 4611686018427387904 := by omega
  have hk2 : k.size ≤ 4611686018427387904 := by omega
  have hv2 : v.size ≤ 4611686018427387904 := by omega
  go_enter Tryd.func3, Tryd.ntmps3
  go_wp2_with (first
    | (
      go_at_call 14
      refine (specRead' s _ _ _ _ _ hs2 HV).mono ?_
      rintro e w1 ⟨rfl, hb1⟩
      have HB1 := Lib.hid hb1
      clear hb1)
    | (go_at_call 15; refine (specHasNUL _ _ (by assumption)).mono ?_; (first | rw [HN.out] | rw [HN2.out]); rintro e w' ⟨rfl, rfl⟩))
  go_ret
  exact ⟨rfl, HB1.out.alloc HB1.out.size _⟩
def ImplPost (k v r : ByteArray) (b : Bool) (w : World) (e : Ending) (w' : World) : Prop := e = .returned (.tuple #[.agg #[.string k, .string v], .string r, .bool b]) ∧ Below w.heap.size w w'
set_option maxRecDepth 20000 in
set_option maxHeartbeats 1600000 in
theorem fnRead_no (s r : ByteArray) (w : World) (hs : s.size ≤ 2147483647) (HV : Hid (readV s = ⟨⟨#[]⟩, ⟨#[]⟩, ⟨#[]⟩, 2⟩)) (HI : Hid (∀ w', Below w.heap.size w w' → Calls Tryd.prog 16 #[.string s] w' (ImplPost ⟨#[]⟩ ⟨#[]⟩ r false w'))) :
    Calls Tryd.prog 3 #[.string s] w fun e w' => e = .returned (.bool true) ∧ Below w.heap.size w w' := by
  have hs2 : s.size ≤ 4611686018427387904 := by omega
  have HN : Hid (decide (fc 0 (⟨#[]⟩ : ByteArray) < (⟨#[]⟩ : ByteArray).size) = false) := Lib.hid (decide_eq_false (by show ¬ _ < 0; omega))
  go_enter Tryd.func3, Tryd.ntmps3
  go_wp2_with (first
    | (
      go_at_call 14
      refine (specRead' s _ _ _ _ _ hs2 HV).mono ?_
      rintro e w1 ⟨rfl, hb1⟩
      have HB1 := Lib.hid hb1
      clear hb1)
    | (go_at_call 15; refine (specHasNUL _ _ (by decide)).mono ?_; rw [HN.out]; rintro e w' ⟨rfl, rfl⟩)
    | (
      go_at_call 16
      refine (HI.out _ (HB1.out.alloc HB1.out.size _)).mono ?_
      unfold ImplPost
      rintro e w3 ⟨rfl, hb3⟩
      have HB3 : Hid (Below w.heap.size w w3) := Lib.hid ((HB1.out.alloc HB1.out.size _).trans (hb3.mono (HB1.out.alloc HB1.out.size _).size))
      clear hb3))
  go_ret
  exact ⟨rfl, HB3.out.alloc HB3.out.size _⟩
set_option maxRecDepth 20000 in
set_option maxHeartbeats 1600000 in
theorem fnRead_yes (s k v r : ByteArray) (w : World) (hs : s.size ≤ 2147483647) (HV : Hid (readV s = ⟨k, v, r, 1⟩)) (hk : k.size ≤ s.size) (hv : v.size ≤ s.size) (HN : Hid (decide (fc 0 k < k.size) = false)) (HN2 : Hid (decide (fc 0 v < v.size) = false))
    (HI : Hid (∀ w', Below w.heap.size w w' → Calls Tryd.prog 16 #[.string s] w' (ImplPost k v r true w'))) :
    Calls Tryd.prog 3 #[.string s] w fun e w' => e = .returned (.bool true) ∧ Below w.heap.size w w' := by
  have hs2 : s.size ≤ 4611686018427387904 := by omega
  have hk2 : k.size ≤ 4611686018427387904 := by omega
  have hv2 : v.size ≤ 4611686018427387904 := by omega
  go_enter Tryd.func3, Tryd.ntmps3
  go_wp2_with (first
    | (
      go_at_call 14
      refine (specRead' s _ _ _ _ _ hs2 HV).mono ?_
      rintro e w1 ⟨rfl, hb1⟩
      have HB1 := Lib.hid hb1
      clear hb1)
    | (go_at_call 15; refine (specHasNUL _ _ (by assumption)).mono ?_; (first | rw [HN.out] | rw [HN2.out]); rintro e w' ⟨rfl, rfl⟩)
    | (
      go_at_call 16
      refine (HI.out _ (HB1.out.alloc HB1.out.size _)).mono ?_
      unfold ImplPost
      rintro e w3 ⟨rfl, hb3⟩
      have HB3 : Hid (Below w.heap.size w w3) := Lib.hid ((HB1.out.alloc HB1.out.size _).trans (hb3.mono (HB1.out.alloc HB1.out.size _).size))
      have HK : Hid (Blk w3 w1.heap.size 23 [.string k, .string v]) := Lib.hid ((two_blk0 w1 _ _ _).below hb3 (two_blk0 w1 23 _ _).lt)
      have q0 : w3.cell? ⟨w1.heap.size, 0, none⟩ = some (.string k) := by rw [HK.out.cell]; rfl
      have q1 : w3.cell? ⟨w1.heap.size, 1, none⟩ = some (.string v) := by rw [HK.out.cell]; rfl
      have q2 := HK.out.lt
      have q3 := Nat.ne_of_lt q2
      clear hb3))
  go_ret
  exact ⟨rfl, HB3.out.alloc HB3.out.size _⟩
end Go.Proofs.YtlchagphjmfooaaDoor
