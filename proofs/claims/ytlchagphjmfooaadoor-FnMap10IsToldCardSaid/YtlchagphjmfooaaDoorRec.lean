/- Records: what spec.ReadRecord answers, in plain words; its walk. -/
import Derived.Test.YtlchagphjmfooaaDoorDec
namespace Go.Proofs.YtlchagphjmfooaaDoor
open Go.RowKit Go.PlainAid
set_option linter.unusedVariables false

structure RV where
  key : ByteArray
  value : ByteArray
  rest : ByteArray
  v : Int
def rv0 (v : Int) : RV := ⟨⟨#[]⟩, ⟨#[]⟩, ⟨#[]⟩, v⟩
def RV.val (r : RV) : Value := .tuple #[.agg #[.string r.key, .string r.value], .string r.rest, .int .i64 r.v]
open Classical in
/-- What stands between the blank and the newline. -/
noncomputable def midV (mid rest : ByteArray) : RV :=
  if ¬ fc 61 mid < mid.size then rv0 2 else if fc 61 mid = 0 then rv0 0 else ⟨mid.extract 0 (fc 61 mid), mid.extract (fc 61 mid + 1) mid.size, rest, 1⟩
def NumBad (s : ByteArray) (p n : Nat) : Prop := s.size < n ∨ n ≤ p + 1 ∨ bt s (n - 1) ≠ 10
def headBad (h : ByteArray) : Prop := h.size = 0 ∨ bt h 0 = 48 ∨ bt h 0 = 43 ∨ bt h 0 = 45
open Classical in
noncomputable def headV (s h : ByteArray) : RV :=
  if headBad h then rv0 0 else if ¬ DecOk h then (if DigOk h then rv0 0 else rv0 2) else
  if NumBad s h.size (vl 0 h.data.toList) then rv0 2 else midV (s.extract (h.size + 1) (vl 0 h.data.toList - 1)) (s.extract (vl 0 h.data.toList) s.size)
open Classical in
/-- What the documents say of the first record of a string. -/
noncomputable def readV (s : ByteArray) : RV := if fc 32 s < s.size then headV s (s.extract 0 (fc 32 s)) else rv0 2

theorem ext_size (s : ByteArray) (i j : Nat) (hj : j ≤ s.size) : (s.extract i j).size = j - i := by
  rw [ByteArray.size_extract]; omega
theorem bt_ext (s : ByteArray) (i j k : Nat) (hj : j ≤ s.size) (hk : k < j - i) : bt (s.extract i j) k = bt s (i + k) := by
  obtain ⟨c, h1, h2⟩ := bt_of (s.extract i j) k (by rw [ext_size _ _ _ hj]; exact hk)
  obtain ⟨d, h3, h4⟩ := bt_of s (i + k) (by omega)
  rw [Lib.extract_data, List.getElem?_take, if_pos hk, List.getElem?_drop, h3] at h1
  rw [h2, h4, Option.some.inj h1]

theorem results_row_tmp2 {P : Program} {fn : Func} {p u v : Tmp} {ty : TypeId} (h : fn.results = #[.cell p ty, .tmp u, .tmp v]) (tmps : Array Value) (w : World) (g : Nat) (t : TypeId) (xs : List Value) (d : TypeDesc)
    (hp : tmps.getD p undef = .pointer (some ⟨g, 0, none⟩)) (hg : Blk w g t xs)
    (hu : P.underlying ty = some d) (hd : (match d with | .struct _ | .array _ _ => true | _ => false) = true) (hi : (P.info? ty).map (·.size) = some xs.length) :
    (results fn tmps).run P w = .ok (.tuple #[.agg xs.toArray, tmps.getD u undef, tmps.getD v undef]) w := by
  have hp' : tmps[p]?.getD undef = .pointer (some ⟨g, 0, none⟩) := by simpa using hp
  simp [results, h, hp', asAddr, run_loadVar_row w g t ty xs.toArray (0, 0) d hg hu hd (by simpa using hi)]
/-- A struct of two cells, made and stored. -/
theorem two_blk (w : World) (T : TypeId) (e1 e2 a b : Value) (n : Nat) : Blk ((((w.alloc (.cells #[e1, e2] T)).drewN n).setCell ⟨w.heap.size, 0, none⟩ a).setCell ⟨w.heap.size, 1, none⟩ b) w.heap.size T [a, b] :=
  (((Blk.new w T [e1, e2]).drewN n).set_ 0 a).set_ 1 b
theorem two_below (w : World) (T : TypeId) (e1 e2 a b : Value) (n : Nat) : Below w.heap.size w ((((w.alloc (.cells #[e1, e2] T)).drewN n).setCell ⟨w.heap.size, 0, none⟩ a).setCell ⟨w.heap.size, 1, none⟩ b) :=
  ((below_drewN ((Below.refl _ w).alloc (Nat.le_refl _) _) n).setCell (Nat.le_refl _) a).setCell (Nat.le_refl _) b
theorem two_blk' (w : World) (T : TypeId) (e1 e2 a b : Value) (n : Nat) : Blk (((((w.alloc (.cells #[e1, e2] T)).drewN n).drew).setCell ⟨w.heap.size, 0, none⟩ a).setCell ⟨w.heap.size, 1, none⟩ b) w.heap.size T [a, b] :=
  (((Blk.new w T [e1, e2]).drewN n).set_ 0 a).set_ 1 b
theorem specRecInfo : (Tryd.prog.info? 23).map (·.size) = some 2 := by kernel_rfl

set_option maxRecDepth 20000 in
set_option maxHeartbeats 800000 in
theorem readNoCut (s : ByteArray) (w : World) (hs : s.size ≤ 4611686018427387904) (h : ¬ fc 32 s < s.size) :
    Calls Tryd.prog 14 #[.string s] w fun e w' => e = .returned (readV s).val ∧ Below w.heap.size w w' := by
  have HV : Hid (readV s = rv0 2) := Lib.hid (by unfold readV; rw [if_neg h])
  have HC : Hid (cutV 32 s = .tuple #[.string s, .string ⟨#[]⟩, .bool false]) := Lib.hid (by unfold cutV; rw [if_neg h])
  clear h
  go_enter Tryd.func14, Tryd.ntmps14
  go_wp2_with (go_at_call 36; refine (specCut s 32 _ hs).mono ?_; rw [HC.out]; rintro e w' ⟨rfl, n, rfl⟩)
  refine bodyPost_ret (results_row_tmp2 rfl _ _ w.heap.size _ [.string ⟨#[]⟩, .string ⟨#[]⟩] _ rfl (two_blk w _ _ _ _ _ n) Tryd.underlying23 rfl specRecInfo) rfl ?_
  rw [HV.out]
  exact ⟨rfl, two_below _ _ _ _ _ _ _⟩

theorem empty_yes {h : ByteArray} (h0 : h.size = 0) : h.toList = [] ∧ h.toList.isEmpty = true := by
  have e := Lib.size_eq h
  have : h.toList = [] := by rw [Lib.toList_data]; exact List.eq_nil_of_length_eq_zero (by omega)
  exact ⟨this, by rw [this]; rfl⟩
theorem empty_no {h : ByteArray} (h0 : ¬ h.size = 0) : ¬ h.toList = [] ∧ h.toList.isEmpty = false := by
  have e := Lib.size_eq h
  have : ¬ h.toList = [] := by rw [Lib.toList_data]; intro hh; rw [hh] at e; exact h0 e
  exact ⟨this, by cases hl : h.toList with
    | nil => exact absurd hl this
    | cons x l => rfl⟩

set_option maxRecDepth 20000 in
set_option maxHeartbeats 2000000 in
theorem readHeadBad (s h t : ByteArray) (w : World) (hs : s.size ≤ 4611686018427387904) (hh : h.size ≤ s.size) (HC : Hid (cutV 32 s = .tuple #[.string h, .string t, .bool true])) (HR : Hid (readV s = headV s h)) (hbad : headBad h) :
    Calls Tryd.prog 14 #[.string s] w fun e w' => e = .returned (readV s).val ∧ Below w.heap.size w w' := by
  have HV : Hid (readV s = rv0 0) := Lib.hid (by rw [HR.out]; unfold headV; rw [if_pos hbad])
  have hb := get_bt h
  unfold headBad at hbad
  by_cases h0 : h.size = 0
  · obtain ⟨e1, e2⟩ := empty_yes h0
    clear hbad hb
    go_enter Tryd.func14, Tryd.ntmps14
    go_wp2_with (go_at_call 36; refine (specCut s 32 _ hs).mono ?_; rw [HC.out]; rintro e w' ⟨rfl, n, rfl⟩)
    refine bodyPost_ret (results_row_tmp2 rfl _ _ w.heap.size _ [.string ⟨#[]⟩, .string ⟨#[]⟩] _ rfl (two_blk w _ _ _ _ _ n) Tryd.underlying23 rfl specRecInfo) rfl ?_
    rw [HV.out]
    exact ⟨rfl, two_below _ _ _ _ _ _ _⟩
  obtain ⟨e1, e2⟩ := empty_no h0
  have hz : (0 : Nat) < h.size := by omega
  clear h0
  have c48 : (bt h 0 == 48) = decide (bt h 0 = 48) := by rfl
  by_cases h1 : bt h 0 = 48
  · have h1' : (bt h 0 == 48) = true := by simpa using h1
    clear hbad
    go_enter Tryd.func14, Tryd.ntmps14
    go_wp2_with (go_at_call 36; refine (specCut s 32 _ hs).mono ?_; rw [HC.out]; rintro e w' ⟨rfl, n, rfl⟩)
    refine bodyPost_ret (results_row_tmp2 rfl _ _ w.heap.size _ [.string ⟨#[]⟩, .string ⟨#[]⟩] _ rfl (two_blk w _ _ _ _ _ n) Tryd.underlying23 rfl specRecInfo) rfl ?_
    rw [HV.out]
    exact ⟨rfl, two_below _ _ _ _ _ _ _⟩
  have h1' : (bt h 0 == 48) = false := by simpa using h1
  by_cases h2 : bt h 0 = 43
  · have h2' : (bt h 0 == 43) = true := by simpa using h2
    clear hbad
    go_enter Tryd.func14, Tryd.ntmps14
    go_wp2_with (go_at_call 36; refine (specCut s 32 _ hs).mono ?_; rw [HC.out]; rintro e w' ⟨rfl, n, rfl⟩)
    refine bodyPost_ret (results_row_tmp2 rfl _ _ w.heap.size _ [.string ⟨#[]⟩, .string ⟨#[]⟩] _ rfl (two_blk w _ _ _ _ _ n) Tryd.underlying23 rfl specRecInfo) rfl ?_
    rw [HV.out]
    exact ⟨rfl, two_below _ _ _ _ _ _ _⟩
  have h2' : (bt h 0 == 43) = false := by simpa using h2
  have h3' : (bt h 0 == 45) = true := by simp; omega
  clear hbad
  go_enter Tryd.func14, Tryd.ntmps14
  go_wp2_with (go_at_call 36; refine (specCut s 32 _ hs).mono ?_; rw [HC.out]; rintro e w' ⟨rfl, n, rfl⟩)
  refine bodyPost_ret (results_row_tmp2 rfl _ _ w.heap.size _ [.string ⟨#[]⟩, .string ⟨#[]⟩] _ rfl (two_blk w _ _ _ _ _ n) Tryd.underlying23 rfl specRecInfo) rfl ?_
  rw [HV.out]
  exact ⟨rfl, two_below _ _ _ _ _ _ _⟩

def cutI (i : Int) (s : ByteArray) : Value := cutV (UInt8.ofNat i.toNat) s
theorem specCutI (s : ByteArray) (i : Int) (w : World) (hs : s.size ≤ 4611686018427387904) (hi : 0 ≤ i ∧ i < 256) :
    Calls Tryd.prog 36 #[.string s, .int .u8 i] w (Quietly (cutI i s) w) := by
  have h := specCut s (UInt8.ofNat i.toNat) w hs
  have e : (((UInt8.ofNat i.toNat).toNat : Nat) : Int) = i := by
    rw [UInt8.toNat_ofNat']
    omega
  rw [e] at h
  exact h
theorem dec_yes (h : ByteArray) (w : World) (hs : h.size ≤ 4611686018427387904) (hd : DecOk h) : Calls Tryd.prog 37 #[.string h] w fun e w' => e = .returned (.tuple #[.int .i64 (vl 0 h.data.toList : Nat), .bool true]) ∧ w = w' := by
  refine (decimal_any h w hs).mono ?_
  rintro e w' ⟨⟨_, rfl⟩ | ⟨h2, _⟩, rfl⟩
  · exact ⟨rfl, rfl⟩
  · exact absurd hd h2
theorem dec_no (h : ByteArray) (w : World) (hs : h.size ≤ 4611686018427387904) (hd : ¬ DecOk h) : Calls Tryd.prog 37 #[.string h] w fun e w' => e = .returned (.tuple #[.int .i64 0, .bool false]) ∧ w = w' := by
  refine (decimal_any h w hs).mono ?_
  rintro e w' ⟨⟨h2, _⟩ | ⟨_, rfl⟩, rfl⟩
  · exact absurd h2 hd
  · exact ⟨rfl, rfl⟩
theorem digs_yes (h : ByteArray) (w : World) (hs : h.size ≤ 4611686018427387904) (hd : DigOk h) : Calls Tryd.prog 38 #[.string h] w fun e w' => e = .returned (.bool true) ∧ w = w' := by
  refine (digits_any h w hs).mono ?_
  rintro e w' ⟨⟨_, rfl⟩ | ⟨h2, _⟩, rfl⟩
  · exact ⟨rfl, rfl⟩
  · exact absurd hd h2
theorem digs_no (h : ByteArray) (w : World) (hs : h.size ≤ 4611686018427387904) (hd : ¬ DigOk h) : Calls Tryd.prog 38 #[.string h] w fun e w' => e = .returned (.bool false) ∧ w = w' := by
  refine (digits_any h w hs).mono ?_
  rintro e w' ⟨⟨h2, _⟩ | ⟨_, rfl⟩, rfl⟩
  · exact absurd h2 hd
  · exact ⟨rfl, rfl⟩

set_option maxRecDepth 20000 in
set_option maxHeartbeats 2000000 in
theorem readNoNum (s h t : ByteArray) (w : World) (hs : s.size ≤ 4611686018427387904) (hh : h.size ≤ s.size) (HC : Hid (cutI 32 s = .tuple #[.string h, .string t, .bool true])) (HR : Hid (readV s = headV s h)) (hbad : ¬ headBad h) (hd : ¬ DecOk h) :
    Calls Tryd.prog 14 #[.string s] w fun e w' => e = .returned (readV s).val ∧ Below w.heap.size w w' := by
  have hb := get_bt h
  have hh' : h.size ≤ 4611686018427387904 := by omega
  have HB := Lib.hid hbad
  unfold headBad at hbad
  obtain ⟨e1, e2⟩ := empty_no (h := h) (fun h0 => hbad (.inl h0))
  have hz : (0 : Nat) < h.size := by omega
  have h1' : (bt h 0 == 48) = false := by rw [beq_eq_false_iff_ne]; omega
  have h2' : (bt h 0 == 43) = false := by rw [beq_eq_false_iff_ne]; omega
  have h3' : (bt h 0 == 45) = false := by rw [beq_eq_false_iff_ne]; omega
  have HD := Lib.hid hd
  clear hbad hd
  by_cases hg : DigOk h
  · have HV : Hid (readV s = rv0 0) := Lib.hid (by rw [HR.out]; unfold headV; rw [if_neg HB.out, if_pos HD.out, if_pos hg])
    have HG := Lib.hid hg
    clear hg
    go_enter Tryd.func14, Tryd.ntmps14
    go_wp2_with (first
      | (go_at_call 36; refine (specCutI _ _ _ (by assumption) (by decide)).mono ?_; rw [HC.out]; rintro e w' ⟨rfl, n1, rfl⟩)
      | (go_at_call 37; refine (dec_no h _ hh' HD.out).mono ?_; rintro e w' ⟨rfl, rfl⟩)
      | (go_at_call 38; refine (digs_yes h _ hh' HG.out).mono ?_; rintro e w' ⟨rfl, rfl⟩))
    refine bodyPost_ret (results_row_tmp2 rfl _ _ w.heap.size _ [.string ⟨#[]⟩, .string ⟨#[]⟩] _ rfl (two_blk w _ _ _ _ _ n1) Tryd.underlying23 rfl specRecInfo) rfl ?_
    rw [HV.out]
    exact ⟨rfl, two_below _ _ _ _ _ _ _⟩
  · have HV : Hid (readV s = rv0 2) := Lib.hid (by rw [HR.out]; unfold headV; rw [if_neg HB.out, if_pos HD.out, if_neg hg])
    have HG := Lib.hid hg
    clear hg
    go_enter Tryd.func14, Tryd.ntmps14
    go_wp2_with (first
      | (go_at_call 36; refine (specCutI _ _ _ (by assumption) (by decide)).mono ?_; rw [HC.out]; rintro e w' ⟨rfl, n1, rfl⟩)
      | (go_at_call 37; refine (dec_no h _ hh' HD.out).mono ?_; rintro e w' ⟨rfl, rfl⟩)
      | (go_at_call 38; refine (digs_no h _ hh' HG.out).mono ?_; rintro e w' ⟨rfl, rfl⟩))
    refine bodyPost_ret (results_row_tmp2 rfl _ _ w.heap.size _ [.string ⟨#[]⟩, .string ⟨#[]⟩] _ rfl (two_blk w _ _ _ _ _ n1) Tryd.underlying23 rfl specRecInfo) rfl ?_
    rw [HV.out]
    exact ⟨rfl, two_below _ _ _ _ _ _ _⟩

set_option maxRecDepth 20000 in
set_option maxHeartbeats 2000000 in
theorem readNum (s h t : ByteArray) (w : World) (hs : s.size ≤ 4611686018427387904) (hh : h.size ≤ s.size) (HC : Hid (cutI 32 s = .tuple #[.string h, .string t, .bool true])) (HR : Hid (readV s = headV s h)) (hbad : ¬ headBad h) (hd : DecOk h) :
    Calls Tryd.prog 14 #[.string s] w fun e w' => e = .returned (readV s).val ∧ Below w.heap.size w w' := by
  have hb := get_bt h
  have hbs := get_bt s
  have hh' : h.size ≤ 4611686018427387904 := by omega
  have HB := Lib.hid hbad
  unfold headBad at hbad
  obtain ⟨e1, e2⟩ := empty_no (h := h) (fun h0 => hbad (.inl h0))
  have hz : (0 : Nat) < h.size := by omega
  have h1' : (bt h 0 == 48) = false := by rw [beq_eq_false_iff_ne]; omega
  have h2' : (bt h 0 == 43) = false := by rw [beq_eq_false_iff_ne]; omega
  have h3' : (bt h 0 == 45) = false := by rw [beq_eq_false_iff_ne]; omega
  obtain ⟨n, hn⟩ : ∃ n, vl 0 h.data.toList = n := ⟨_, rfl⟩
  have HN := Lib.hid hn
  have hnm : n ≤ 9223372036854775807 := by rw [← hn]; exact hd.2.2.2
  have HD := Lib.hid hd
  have HR1 : Hid (NumBad s h.size n → readV s = rv0 2) := Lib.hid (fun hx => by rw [HR.out]; unfold headV; rw [if_neg HB.out, if_neg (not_not_intro HD.out), HN.out, if_pos hx])
  have HR2 : Hid (¬ NumBad s h.size n → readV s = midV (s.extract (h.size + 1) (n - 1)) (s.extract n s.size)) := Lib.hid (fun hx => by rw [HR.out]; unfold headV; rw [if_neg HB.out, if_neg (not_not_intro HD.out), HN.out, if_neg hx])
  clear hbad hd hn HR
  have w1 : IntKind.i64.wrap ((h.size : Int) + 1) = (h.size : Int) + 1 := IntWalk.i64_in _ (by omega)
  by_cases k1 : s.size < n
  · have HV : Hid (readV s = rv0 2) := Lib.hid (HR1.out (.inl k1))
    go_enter Tryd.func14, Tryd.ntmps14
    go_wp2_with (first
      | (go_at_call 36; refine (specCutI _ _ _ (by assumption) (by decide)).mono ?_; rw [HC.out]; rintro e w' ⟨rfl, n1, rfl⟩)
      | (go_at_call 37; refine (dec_yes h _ hh' HD.out).mono ?_; rw [HN.out]; rintro e w' ⟨rfl, rfl⟩))
    refine bodyPost_ret (results_row_tmp2 rfl _ _ w.heap.size _ [.string ⟨#[]⟩, .string ⟨#[]⟩] _ rfl (two_blk w _ _ _ _ _ n1) Tryd.underlying23 rfl specRecInfo) rfl ?_
    rw [HV.out]
    exact ⟨rfl, two_below _ _ _ _ _ _ _⟩
  by_cases k2 : n ≤ h.size + 1
  · have HV : Hid (readV s = rv0 2) := Lib.hid (HR1.out (.inr (.inl k2)))
    go_enter Tryd.func14, Tryd.ntmps14
    go_wp2_with (first
      | (go_at_call 36; refine (specCutI _ _ _ (by assumption) (by decide)).mono ?_; rw [HC.out]; rintro e w' ⟨rfl, n1, rfl⟩)
      | (go_at_call 37; refine (dec_yes h _ hh' HD.out).mono ?_; rw [HN.out]; rintro e w' ⟨rfl, rfl⟩))
    refine bodyPost_ret (results_row_tmp2 rfl _ _ w.heap.size _ [.string ⟨#[]⟩, .string ⟨#[]⟩] _ rfl (two_blk w _ _ _ _ _ n1) Tryd.underlying23 rfl specRecInfo) rfl ?_
    rw [HV.out]
    exact ⟨rfl, two_below _ _ _ _ _ _ _⟩
  have k2' : ¬ (n : Int) ≤ (h.size : Int) + 1 := by omega
  have w2 : IntKind.i64.wrap ((n : Int) - 1) = (n : Int) - 1 := IntWalk.i64_in _ (by omega)
  have w3 : ((n : Int) - 1).toNat = n - 1 := by omega
  have w4 : (0 : Int) ≤ (n : Int) - 1 := by omega
  have w5 : (n : Int) - 1 < (s.size : Int) := by omega
  have w6 : n - 1 < s.size := by omega
  by_cases k3 : bt s (n - 1) = 10
  case neg =>
    have HV : Hid (readV s = rv0 2) := Lib.hid (HR1.out (.inr (.inr k3)))
    have k3' : (bt s (n - 1) == 10) = false := by rw [beq_eq_false_iff_ne]; exact k3
    have k4' : (bt s (n - 1) != 10) = true := by rw [bne, k3']; rfl
    clear k3 HR1 HR2
    go_enter Tryd.func14, Tryd.ntmps14
    go_wp2_with (first
      | (go_at_call 36; refine (specCutI _ _ _ (by assumption) (by decide)).mono ?_; rw [HC.out]; rintro e w' ⟨rfl, n1, rfl⟩)
      | (go_at_call 37; refine (dec_yes h _ hh' HD.out).mono ?_; rw [HN.out]; rintro e w' ⟨rfl, rfl⟩))
    refine bodyPost_ret (results_row_tmp2 rfl _ _ w.heap.size _ [.string ⟨#[]⟩, .string ⟨#[]⟩] _ rfl (two_blk w _ _ _ _ _ n1) Tryd.underlying23 rfl specRecInfo) rfl ?_
    rw [HV.out]
    exact ⟨rfl, two_below _ _ _ _ _ _ _⟩
  have k3' : (bt s (n - 1) == 10) = true := by simpa using k3
  have k4' : (bt s (n - 1) != 10) = false := by rw [bne, k3']; rfl
  have HR3 : Hid (readV s = midV (s.extract (h.size + 1) (n - 1)) (s.extract n s.size)) := Lib.hid (HR2.out (by rintro (a | a | a); exact k1 a; exact k2 a; exact a k3))
  obtain ⟨m, hm⟩ : ∃ m, s.extract (h.size + 1) (n - 1) = m := ⟨_, rfl⟩
  obtain ⟨r, hr⟩ : ∃ r, s.extract n s.size = r := ⟨_, rfl⟩
  rw [hm, hr] at HR3
  have hms : m.size ≤ s.size := by rw [← hm, ext_size _ _ _ (by omega)]; omega
  have hms2 : m.size ≤ 4611686018427387904 := by omega
  have w7 : (0 : Int) ≤ (h.size : Int) + 1 := by omega
  have w8 : (h.size : Int) + 1 ≤ (n : Int) - 1 := by omega
  have w9 : (n : Int) - 1 ≤ (s.size : Int) := by omega
  have w10 : ((h.size : Int) + 1).toNat = h.size + 1 := by omega
  have w11 : (0 : Int) ≤ (n : Int) := by omega
  have w12 : (n : Int) ≤ (s.size : Int) := by omega
  clear HR1 HR2 k3
  by_cases q1 : fc 61 m < m.size
  case neg =>
    have HV : Hid (readV s = rv0 2) := Lib.hid (by rw [HR3.out]; unfold midV; rw [if_pos q1])
    have HC2 : Hid (cutI 61 m = .tuple #[.string m, .string ⟨#[]⟩, .bool false]) := Lib.hid (by show cutV 61 m = _; unfold cutV; rw [if_neg q1])
    clear q1
    go_enter Tryd.func14, Tryd.ntmps14
    go_wp2_with (first
      | (go_at_call 36; refine (specCutI _ _ _ (by first | assumption | (rw [hm]; assumption)) (by decide)).mono ?_; (first | rw [HC2.out] | rw [hm, HC2.out]); rintro e w' ⟨rfl, n2, rfl⟩)
      | (go_at_call 36; refine (specCutI _ _ _ (by assumption) (by decide)).mono ?_; rw [HC.out]; rintro e w' ⟨rfl, n1, rfl⟩)
      | (go_at_call 37; refine (dec_yes h _ hh' HD.out).mono ?_; rw [HN.out]; rintro e w' ⟨rfl, rfl⟩))
    refine bodyPost_ret (results_row_tmp2 rfl _ _ w.heap.size _ [.string ⟨#[]⟩, .string ⟨#[]⟩] _ rfl (two_blk w _ _ _ _ _ (n1 + n2)) Tryd.underlying23 rfl specRecInfo) rfl ?_
    rw [HV.out]
    exact ⟨rfl, two_below _ _ _ _ _ _ _⟩
  obtain ⟨k, hk⟩ : ∃ k, m.extract 0 (fc 61 m) = k := ⟨_, rfl⟩
  obtain ⟨v, hv⟩ : ∃ v, m.extract (fc 61 m + 1) m.size = v := ⟨_, rfl⟩
  have hks : k.size = fc 61 m := by rw [← hk, ext_size _ _ _ (by omega)]; omega
  have HC2 : Hid (cutI 61 m = .tuple #[.string k, .string v, .bool true]) := Lib.hid (by show cutV 61 m = _; unfold cutV; rw [if_pos q1, hk, hv])
  by_cases q2 : k.size = 0
  · have HV : Hid (readV s = rv0 0) := Lib.hid (by rw [HR3.out]; unfold midV; rw [if_neg (not_not_intro q1), if_pos (by omega)])
    obtain ⟨e3, e4⟩ := empty_yes q2
    clear q1 hks
    go_enter Tryd.func14, Tryd.ntmps14
    go_wp2_with (first
      | (go_at_call 36; refine (specCutI _ _ _ (by first | assumption | (rw [hm]; assumption)) (by decide)).mono ?_; (first | rw [HC2.out] | rw [hm, HC2.out]); rintro e w' ⟨rfl, n2, rfl⟩)
      | (go_at_call 36; refine (specCutI _ _ _ (by assumption) (by decide)).mono ?_; rw [HC.out]; rintro e w' ⟨rfl, n1, rfl⟩)
      | (go_at_call 37; refine (dec_yes h _ hh' HD.out).mono ?_; rw [HN.out]; rintro e w' ⟨rfl, rfl⟩))
    refine bodyPost_ret (results_row_tmp2 rfl _ _ w.heap.size _ [.string ⟨#[]⟩, .string ⟨#[]⟩] _ rfl (two_blk w _ _ _ _ _ (n1 + n2)) Tryd.underlying23 rfl specRecInfo) rfl ?_
    rw [HV.out]
    exact ⟨rfl, two_below _ _ _ _ _ _ _⟩
  · have HV : Hid (readV s = ⟨k, v, r, 1⟩) := Lib.hid (by rw [HR3.out]; unfold midV; rw [if_neg (not_not_intro q1), if_neg (by omega), hk, hv])
    obtain ⟨e3, e4⟩ := empty_no q2
    clear q1 hks
    go_enter Tryd.func14, Tryd.ntmps14
    go_wp2_with (first
      | (go_at_call 36; refine (specCutI _ _ _ (by first | assumption | (rw [hm]; assumption)) (by decide)).mono ?_; (first | rw [HC2.out] | rw [hm, HC2.out]); rintro e w' ⟨rfl, n2, rfl⟩)
      | (go_at_call 36; refine (specCutI _ _ _ (by assumption) (by decide)).mono ?_; rw [HC.out]; rintro e w' ⟨rfl, n1, rfl⟩)
      | (go_at_call 37; refine (dec_yes h _ hh' HD.out).mono ?_; rw [HN.out]; rintro e w' ⟨rfl, rfl⟩))
    go_region_held3 (fun _ => True) (trivial) (fail)
    go_wp2
    (try rw [hr])
    refine bodyPost_ret (results_row_tmp2 rfl _ _ w.heap.size _ [.string k, .string v] _ rfl (two_blk w _ _ _ _ _ (n1 + n2 + 1)) Tryd.underlying23 rfl specRecInfo) rfl ?_
    rw [HV.out]
    exact ⟨rfl, two_below _ _ _ _ _ _ _⟩

/-- spec.ReadRecord. -/
theorem specRead (s : ByteArray) (w : World) (hs : s.size ≤ 4611686018427387904) :
    Calls Tryd.prog 14 #[.string s] w fun e w' => e = .returned (readV s).val ∧ Below w.heap.size w w' := by
  by_cases h : fc 32 s < s.size
  · have HC : Hid (cutI 32 s = .tuple #[.string (s.extract 0 (fc 32 s)), .string (s.extract (fc 32 s + 1) s.size), .bool true]) := Lib.hid (by show cutV 32 s = _; unfold cutV; rw [if_pos h])
    have HR : Hid (readV s = headV s (s.extract 0 (fc 32 s))) := Lib.hid (by unfold readV; rw [if_pos h])
    have hh : (s.extract 0 (fc 32 s)).size ≤ s.size := by rw [ext_size _ _ _ (by omega)]; omega
    by_cases hb : headBad (s.extract 0 (fc 32 s))
    · exact readHeadBad s _ _ w hs hh HC HR hb
    · by_cases hd : DecOk (s.extract 0 (fc 32 s))
      · exact readNum s _ _ w hs hh HC HR hb hd
      · exact readNoNum s _ _ w hs hh HC HR hb hd
  · exact readNoCut s w hs h

/-- A record, laid out. -/
structure IsRec (s h : ByteArray) (n : Nat) (m k v r : ByteArray) : Prop where
  cut : fc 32 s < s.size
  hd : h = s.extract 0 (fc 32 s)
  ok : ¬ headBad h
  dec : DecOk h
  num : n = vl 0 h.data.toList
  le : n ≤ s.size
  gt : h.size + 1 < n
  nl : bt s (n - 1) = 10
  mid : m = s.extract (h.size + 1) (n - 1)
  eq : fc 61 m < m.size
  pos : 0 < fc 61 m
  key : k = m.extract 0 (fc 61 m)
  val : v = m.extract (fc 61 m + 1) m.size
  rest : r = s.extract n s.size
theorem isRec_of {s : ByteArray} (h1 : (readV s).v = 1) : ∃ h n m, IsRec s h n m (readV s).key (readV s).value (readV s).rest := by
  unfold readV at h1 ⊢
  by_cases c1 : fc 32 s < s.size
  · rw [if_pos c1] at h1 ⊢
    obtain ⟨h, hh⟩ : ∃ h, s.extract 0 (fc 32 s) = h := ⟨_, rfl⟩
    rw [hh] at h1 ⊢
    unfold headV at h1 ⊢
    by_cases c2 : headBad h
    · rw [if_pos c2] at h1; simp [rv0] at h1
    rw [if_neg c2] at h1 ⊢
    by_cases c3 : DecOk h
    · rw [if_neg (not_not_intro c3)] at h1 ⊢
      by_cases c4 : NumBad s h.size (vl 0 h.data.toList)
      · rw [if_pos c4] at h1; simp [rv0] at h1
      rw [if_neg c4] at h1 ⊢
      obtain ⟨m, hm⟩ : ∃ m, s.extract (h.size + 1) (vl 0 h.data.toList - 1) = m := ⟨_, rfl⟩
      rw [hm] at h1 ⊢
      unfold midV at h1 ⊢
      by_cases c5 : fc 61 m < m.size
      · rw [if_neg (not_not_intro c5)] at h1 ⊢
        by_cases c6 : fc 61 m = 0
        · rw [if_pos c6] at h1; simp [rv0] at h1
        rw [if_neg c6]
        unfold NumBad at c4
        exact ⟨h, vl 0 h.data.toList, m, c1, hh.symm, c2, c3, rfl, by omega, by omega, by
          by_cases c7 : bt s (vl 0 h.data.toList - 1) = 10
          · exact c7
          · exact absurd (.inr (.inr c7)) c4, hm.symm, c5, by omega, rfl, rfl, rfl⟩
      · rw [if_pos c5] at h1; simp [rv0] at h1
    · rw [if_pos c3] at h1
      by_cases c4 : DigOk h
      · rw [if_pos c4] at h1; simp [rv0] at h1
      · rw [if_neg c4] at h1; simp [rv0] at h1
  · rw [if_neg c1] at h1; simp [rv0] at h1
theorem readV_of {s h : ByteArray} {n : Nat} {m k v r : ByteArray} (H : IsRec s h n m k v r) : readV s = ⟨k, v, r, 1⟩ := by
  unfold readV
  rw [if_pos H.cut, ← H.hd]
  unfold headV
  have hnb : ¬ NumBad s h.size n := by
    unfold NumBad
    have := H.le
    have := H.gt
    have := H.nl
    omega
  rw [if_neg H.ok, if_neg (not_not_intro H.dec), ← H.num, if_neg hnb, ← H.mid]
  unfold midV
  have := H.pos
  rw [if_neg (not_not_intro H.eq), if_neg (by omega), ← H.key, ← H.val, ← H.rest]
end Go.Proofs.YtlchagphjmfooaaDoor
