/- parsePAXTime where the part of a second has another sign; ZZTime, impl.ReadTime: one contract. -/
import Derived.Test.YtlchagphjmfooaaDoorTimQ
import Derived.Test.YtlchagphjmfooaaDoorIsRead
import Derived.Lib.ParseIntBTie
namespace Go.Proofs.YtlchagphjmfooaaDoor
open Go.RowKit Go.PlainAid
set_option linter.unusedVariables false

set_option maxRecDepth 20000 in
set_option maxHeartbeats 1600000 in
theorem tim_badPart {a : Addr} {c : Bool} (s h t : ByteArray) (v : Int) (w : World) (hs : s.size ≤ 281474976710656) (hh : h.size ≤ s.size) (htt : t.size ≤ s.size)
    (HC : Hid (cutV 46 s = .tuple #[.string h, .string t, .bool c])) (HP : Lib.parseIntB 64 h.data.toList = .ok v) (hd : ¬ allDig t.data.toList)
    (hE : Err w.heap.size w 0 a) :
    Calls Tryd.prog 56 #[.string s] w (TimNo a w) := by
  have hh2 : h.size ≤ 281474976710656 := by omega
  have k1 := hE.cell
  have hltg := lt_of_cell' k1
  have hneq := fun w => run_neq_nil_nil_at (P := Tryd.prog) (w := w) 105 isErr
  have ht : t.size ≠ 0 := fun h0 => hd (by
    have e : t.data.toList = [] := List.eq_nil_of_length_eq_zero (by rw [← Lib.size_eq]; exact h0)
    rw [e]
    intro x hx
    simp at hx)
  have ht2 : ¬ (t.size : Int) = 0 := by omega
  have hbt := get_bt t
  have HD := Lib.hid hd
  have HT := Lib.hid (take_all t)
  unfold errV at k1
  clear hd hE
  go_enter Tryd.func56, Tryd.ntmps56
  go_wp2_with (first
    | (go_at_call 72; refine (zzCut1 _ _ _ (by omega)).mono ?_; rw [HC.out]; rintro e w' ⟨rfl, n1, rfl⟩)
    | fail)
  have HB0 : Hid (Below w.heap.size w ((w.alloc (.cells #[.int .u64 0, .int .i64 0] 110)).drewN n1)) := Lib.hid (below_drewN ((Below.refl _ w).alloc (Nat.le_refl _) _) n1)
  refine (parseInt_ok64 h v _ hh2 HP).mono ?_
  rintro e w1 ⟨rfl, hb1⟩
  have HB1 : Hid (Below w.heap.size w w1) := Lib.hid (HB0.out.trans (hb1.mono HB0.out.size))
  have HK : Hid (Blk w1 w.heap.size 110 [.int .u64 0, .int .i64 0]) := Lib.hid (((Blk.new w _ [_, _]).drewN n1).below hb1 ((Blk.new w 110 [.int .u64 0, .int .i64 0]).drewN n1).lt)
  have hlt := HK.out.lt
  clear hb1 HC
  go_wp2
  go_loopw [37] (fun i wr => ∃ k : Nat, k ≤ t.size ∧ i = .int .i64 k ∧ Hid (Blk wr w1.heap.size 136 (bys (nineL t.data.toList k))) ∧ Hid (Blk wr w.heap.size 110 [.int .u64 0, .int .i64 0]) ∧ Hid (Below w.heap.size w wr) ∧ Hid (∀ j, j < k → 48 ≤ bt t j ∧ bt t j ≤ 57)) (fun i _ => t.size - (intOf i).toNat)
  case atStart => exact ⟨0, by omega, rfl, Lib.hid (nine_start w1 _ _), Lib.hid (HK.out.alloc _), Lib.hid (HB1.out.alloc HB1.out.size _), Lib.hid (fun j hj => by omega)⟩
  case round =>
    obtain ⟨k, hk, rfl, hA, hZ, hB, hG⟩ := hrel
    by_cases hkt : k < t.size
    · by_cases hdk : 48 ≤ bt t k ∧ bt t k ≤ 57
      · obtain ⟨d1, d2⟩ := hdk
        have e1 : ¬ bt t k < 48 := by omega
        have e2 : ¬ 57 < bt t k := by omega
        have HG : Hid (∀ j, j < k + 1 → 48 ≤ bt t j ∧ bt t j ≤ 57) := Lib.hid (fun j hj => by
          by_cases e : j < k
          · exact hG.out j e
          · obtain rfl : j = k := by omega
            exact ⟨d1, d2⟩)
        by_cases h9 : k < 9
        · obtain ⟨y, q0⟩ := nine_cell hA.out k h9
          have q1 := hA.out.frozen k
          have q2 : (0 : Int) ≤ (k : Int) := by omega
          have q3 : (k : Int) < 9 := by omega
          have HS := Lib.hid (nine_store hA.out h9 hkt)
          go_wp2
          go_roundw
          case rel => exact ⟨k + 1, by omega, by go_num, HS, Lib.hid (hZ.out.far (Nat.ne_of_lt hlt) _), Lib.hid (hB.out.setCell (Nat.le_of_lt hlt) _), HG⟩
          case measure => simp [intOf]; omega
        · have q3 : ¬ (k : Int) < 9 := by omega
          go_wp2
          go_roundw
          case rel => exact ⟨k + 1, by omega, by go_num, Lib.hid (by rw [nineL_more _ _ (by omega)]; exact hA.out), hZ, hB, HG⟩
          case measure => simp [intOf]; omega
      · have k2 := (hB.out.cell (p := ⟨0, 0, none⟩) hltg).trans k1
        have c0 : wr.cell? ⟨w.heap.size, 0, none⟩ = some (.int .u64 0) := by rw [hZ.out.cell]; rfl
        have c1 : wr.cell? ⟨w.heap.size, 1, none⟩ = some (.int .i64 0) := by rw [hZ.out.cell]; rfl
        have f0 := hZ.out.frozen 0
        have f1 := hZ.out.frozen 1
        have hg : 0 ≠ w.heap.size := Nat.ne_of_lt hltg
        by_cases d1 : bt t k < 48
        · clear hdk
          go_wp2
          go_region
          go_wp2
          refine bodyPost_ret (results_row_tmp1 rfl _ _ w.heap.size _ [.int .u64 0, .int .i64 0] _ rfl (((hZ.out.set_ 0 (.int .u64 0)).set_ 1 (.int .i64 0)).drewN 1) Tryd.underlying110 rfl timInfo) rfl ?_
          exact ⟨rfl, ((hB.out.setCell (Nat.le_refl _) _).setCell (Nat.le_refl _) _).drew⟩
        · have d2 : 57 < bt t k := by omega
          clear hdk
          go_wp2
          go_region
          go_wp2
          refine bodyPost_ret (results_row_tmp1 rfl _ _ w.heap.size _ [.int .u64 0, .int .i64 0] _ rfl (((hZ.out.set_ 0 (.int .u64 0)).set_ 1 (.int .i64 0)).drewN 1) Tryd.underlying110 rfl timInfo) rfl ?_
          exact ⟨rfl, ((hB.out.setCell (Nat.le_refl _) _).setCell (Nat.le_refl _) _).drew⟩
    · obtain rfl : k = t.size := by omega
      exact absurd (by have := allDig_of t t.size (Nat.le_refl _) hG.out; rwa [HT.out] at this) HD.out

/-! ### ZZTime -/
def ZTim (sec ns : Int) (b : Bool) (w : World) (e : Ending) (w' : World) : Prop := e = .returned (.tuple #[.int .i64 sec, .int .i64 ns, .bool b]) ∧ Below w.heap.size w w'
set_option maxRecDepth 20000 in
set_option maxHeartbeats 800000 in
theorem zzTim_no {a : Addr} (s : ByteArray) (w : World) (HP : Calls Tryd.prog 56 #[.string s] w (TimNo a w)) :
    Calls Tryd.prog 41 #[.string s] w (ZTim 0 0 false w) := by
  have HQ := Lib.hid HP
  have hneq := fun w x => run_neq_iface_nil (P := Tryd.prog) (w := w) 105 isErr 226 x
  clear HP
  go_enter Tryd.func41, Tryd.ntmps41
  go_wp2_with (go_at_call 56; refine HQ.out.mono ?_; unfold TimNo errV; rintro e w1 ⟨rfl, hb1⟩; have HB1 := Lib.hid hb1; clear hb1)
  go_ret3
  exact ⟨rfl, HB1.out.alloc HB1.out.size _⟩
set_option maxRecDepth 20000 in
set_option maxHeartbeats 800000 in
theorem zzTim_yes (s : ByteArray) (ns x sec : Int) (w : World) (h0 : 0 ≤ ns) (h1 : ns < 1000000000) (hx : wrap64 (x + -62135596800) = sec)
    (HP : Calls Tryd.prog 56 #[.string s] w (TimPost2 ns x w)) :
    Calls Tryd.prog 41 #[.string s] w (ZTim sec ns true w) := by
  have HQ := Lib.hid HP
  have hneq := fun w => run_neq_nil_nil_at (P := Tryd.prog) (w := w) 105 isErr
  have HU := fun w => Lib.hid (unixM ns x sec w h0 h1 hx)
  have HV := fun w => Lib.hid (nanoM ns x w h0 h1)
  clear HP hx
  go_enter Tryd.func41, Tryd.ntmps41
  go_wp2_with (go_at_call 56; refine HQ.out.mono ?_; unfold TimPost2; rintro e w1 ⟨rfl, hb1⟩; have HB1 := Lib.hid hb1; clear hb1)
  go_region_held3 (fun w' => w'.cell? ⟨w1.heap.size, 0, none⟩ = some (.int .u64 ns) ∧ w'.cell? ⟨w1.heap.size, 1, none⟩ = some (.int .i64 x)) (refine ⟨?_, ?_⟩ <;> (simp [go_sem, World.cell?_alloc_past]; done)) (first
    | (go_at_call 57; refine (HU _).out.mono ?_; rintro e w2 ⟨rfl, rfl⟩)
    | (go_at_call 58; refine (HV _).out.mono ?_; rintro e w2 ⟨rfl, rfl⟩))
  go_wp2
  go_ret3
  have HB2 := HB1.out.alloc HB1.out.size (.cells #[.int .u64 ns, .int .i64 x] 110)
  have HB3 := HB2.alloc HB2.size (.cells #[.int .u64 ns, .int .i64 x] 110)
  exact ⟨rfl, (HB3.alloc HB3.size _).drew⟩

/-! ### impl.ReadTime -/
theorem iTimInfo : (Tryd.prog.info? 36).map (·.size) = some 2 := by kernel_rfl
def ITim (sec ns : Int) (b : Bool) (w : World) (e : Ending) (w' : World) : Prop := e = .returned (.tuple #[.agg #[.int .i64 sec, .int .i64 ns], .bool b]) ∧ Below w.heap.size w w'
set_option maxRecDepth 20000 in
set_option maxHeartbeats 800000 in
theorem implTim_of (s : ByteArray) (sec ns : Int) (b : Bool) (w : World) (HP : ∀ w', Below w.heap.size w w' → Calls Tryd.prog 41 #[.string s] w' (ZTim sec ns b w')) :
    Calls Tryd.prog 19 #[.string s] w (ITim sec ns b w) := by
  have HQ := Lib.hid HP
  clear HP
  go_enter Tryd.func19, Tryd.ntmps19
  go_wp2_with (
    go_at_call 41
    refine (HQ.out _ ((Below.refl _ w).alloc (Nat.le_refl _) _)).mono ?_
    unfold ZTim
    rintro e w1 ⟨rfl, hb1⟩
    obtain ⟨HB0, HB1⟩ := zero_blk _ _ _ _ _ hb1
    have c0 : w1.cell? ⟨w.heap.size, 0, none⟩ = some (.int .i64 0) := by rw [HB0.cell]; rfl
    have c1 : w1.cell? ⟨w.heap.size, 1, none⟩ = some (.int .i64 0) := by rw [HB0.cell]; rfl
    have f0 := HB0.frozen 0
    have f1 := HB0.frozen 1
    replace HB0 := Lib.hid HB0
    replace HB1 := Lib.hid HB1
    clear hb1)
  refine bodyPost_ret (results_row_tmp1 rfl _ _ w.heap.size _ [.int .i64 sec, .int .i64 ns] _ rfl ((HB0.out.set_ 0 _).set_ 1 _) Tryd.underlying36 rfl iTimInfo) rfl ?_
  exact ⟨rfl, (HB1.out.setCell (Nat.le_refl _) _).setCell (Nat.le_refl _) _⟩

/-! ### The ways joined -/
open Classical in
/-- What the program answers of a time, cut at its point: h, t. -/
noncomputable def timP (h t : ByteArray) : Option (Int × Int) :=
  match Lib.parseIntB 64 h.data.toList with
  | .ok v => if t.size = 0 then some (v, 0) else if ¬ allDig t.data.toList then none else if bt h 0 = 45 ∧ 0 < nano t.data.toList then some (wrap64 (v - 1), 1000000000 - ((nano t.data.toList : Nat) : Int)) else some (v, ((nano t.data.toList : Nat) : Int))
  | _ => none
theorem back (v : Int) (h : -9223372036854775808 ≤ v ∧ v ≤ 9223372036854775807) : wrap64 (IntKind.i64.wrap (v + 62135596800) + -62135596800) = v := by
  rw [wrap_i64]; unfold wrap64; omega
theorem back1 (v : Int) : wrap64 (IntKind.i64.wrap (v - 1 + 62135596800) + -62135596800) = wrap64 (v - 1) := by
  rw [wrap_i64]; unfold wrap64; omega
/-- impl.ReadTime. -/
theorem implTim {a a1 a2 : Addr} {c : Bool} (s h t : ByteArray) (w : World) (hs : s.size ≤ 281474976710656) (hh : h.size ≤ s.size) (htt : t.size ≤ s.size)
    (HC : Hid (cutV 46 s = .tuple #[.string h, .string t, .bool c])) (hE : Err w.heap.size w 0 a) (h1 : Err w.heap.size w 6 a1) (h2 : Err w.heap.size w 7 a2) :
    Calls Tryd.prog 19 #[.string s] w (ITim ((timP h t).getD (0, 0)).1 ((timP h t).getD (0, 0)).2 (timP h t).isSome w) := by
  refine implTim_of s _ _ _ w fun w' hb => ?_
  have e0 := hE.more hb
  have e1 := h1.more hb
  have e2 := h2.more hb
  unfold timP
  cases hp : Lib.parseIntB 64 h.data.toList with
  | ok v =>
    have hb2 := Lib.parseIntB_bounds hp
    have e63 : (2 : Nat) ^ (64 - 1) = 9223372036854775808 := by decide
    rw [e63] at hb2
    have hbv : -9223372036854775808 ≤ v ∧ v ≤ 9223372036854775807 := by omega
    simp only
    by_cases ht : t.size = 0
    · rw [if_pos ht]
      exact zzTim_yes s 0 _ v w' (by omega) (by omega) (back v hbv) (tim_noPart s h t v _ w' hs hh HC hp ht rfl)
    rw [if_neg ht]
    by_cases hd : allDig t.data.toList
    · rw [if_neg (not_not_intro hd)]
      have hn := nano_lt hd
      by_cases hm : bt h 0 = 45 ∧ 0 < nano t.data.toList
      · rw [if_pos hm]
        refine zzTim_yes s (1000000000 - ((nano t.data.toList : Nat) : Int)) _ (wrap64 (v - 1)) w' (by omega) (by omega) (back1 v) ?_
        refine tim_part s h t v _ (-((nano t.data.toList : Nat) : Int)) _ true w' hs hh htt HC hp ht hd (by rw [hm.1]; rfl) (by simp) (fun w2 => ?_)
        have := unix_neg v (-((nano t.data.toList : Nat) : Int)) _ w2 (by omega) (by omega) hbv rfl
        rwa [show -((nano t.data.toList : Nat) : Int) + 1000000000 = 1000000000 - ((nano t.data.toList : Nat) : Int) by omega] at this
      · rw [if_neg hm]
        refine zzTim_yes s ((nano t.data.toList : Nat) : Int) _ v w' (by omega) (by omega) (back v hbv) ?_
        by_cases hq : bt h 0 = 45
        · have hz : nano t.data.toList = 0 := by omega
          refine tim_part s h t v _ 0 _ true w' hs hh htt HC hp ht hd (by rw [hq]; rfl) (by rw [hz]; simp) (fun w2 => ?_)
          rw [hz]
          exact unix_pos v 0 _ w2 (by omega) (by omega) rfl
        · exact tim_part s h t v _ ((nano t.data.toList : Nat) : Int) _ false w' hs hh htt HC hp ht hd (by rw [beq_eq_false_iff_ne]; exact hq) (by simp) (fun w2 => unix_pos v _ _ w2 (by omega) (by omega) rfl)
    · rw [if_pos hd]
      exact zzTim_no s w' (tim_badPart s h t v w' hs hh htt HC hp hd e0)
  | _ => exact zzTim_no s w' (tim_noNum (C := 0) (B := 0) s h t w' hs hh e0 e1 e2 HC (by rw [hp]; intro v hv; cases hv))
end Go.Proofs.YtlchagphjmfooaaDoor
