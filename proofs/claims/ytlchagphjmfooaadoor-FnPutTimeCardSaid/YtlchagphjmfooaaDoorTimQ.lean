/- parsePAXTime where there is a part of a second. -/
import Derived.Test.YtlchagphjmfooaaDoorTimP
import Derived.Test.YtlchagphjmfooaaDoorNumW
namespace Go.Proofs.YtlchagphjmfooaaDoor
open Go.RowKit Go.PlainAid
set_option linter.unusedVariables false

theorem bys_set (l : List UInt8) (k : Nat) (c : UInt8) : (bys l).set k (.int .u8 (c.toNat : Int)) = bys (l.set k c) := by simp [bys, List.map_set]
/-- One more digit is stored. -/
theorem nine_store {w : World} {g : Nat} {t : TypeId} {s : ByteArray} {k : Nat} (h : Blk w g t (bys (nineL s.data.toList k))) (hk : k < 9) (hs : k < s.size) : Blk (w.setCell ⟨g, k, none⟩ (.int .u8 (bt s k))) g t (bys (nineL s.data.toList (k + 1))) := by
  obtain ⟨c, e1, e2⟩ := bt_of s k hs
  rw [e2, ← nineL_set _ _ c hk e1, ← bys_set]
  exact h.set_ k _
theorem nine_cell {w : World} {g : Nat} {t : TypeId} {l : List UInt8} {k : Nat} (h : Blk w g t (bys (nineL l k))) (j : Nat) (hj : j < 9) : ∃ v, w.cell? ⟨g, j, none⟩ = some (.int .u8 v) :=
  ⟨_, by rw [h.cell, bys_get _ j (by rw [nineL_len]; exact hj)]⟩
theorem nine_start (w : World) (t : TypeId) (l : List UInt8) : Blk (w.alloc (.cells #[.int .u8 48, .int .u8 48, .int .u8 48, .int .u8 48, .int .u8 48, .int .u8 48, .int .u8 48, .int .u8 48, .int .u8 48] t)) w.heap.size t (bys (nineL l 0)) := by
  rw [nineL_zero]
  exact Blk.new w t _
theorem parse_empty : ∀ v, Lib.parseIntB 64 [] ≠ .ok v := by
  intro v h
  simp [Lib.parseIntB] at h
theorem nine_parse {s : ByteArray} (hd : allDig s.data.toList) : Lib.parseIntB 64 (mkS (nineL s.data.toList s.size)).data.toList = .ok ((nano s.data.toList : Nat) : Int) := by
  have e : (mkS (nineL s.data.toList s.size)).data.toList = nineL s.data.toList s.data.toList.length := by
    rw [← Lib.size_eq]; simp [mkS]
  have h1 := nano_lt hd
  rw [e]
  refine intB_plain (l := nineL s.data.toList s.data.toList.length) (fun h => ?_) (nineL_dig _ (by rw [List.take_length]; exact hd)) (by unfold nano at h1; omega)
  have := nineL_len s.data.toList s.data.toList.length
  rw [h] at this
  simp at this

set_option maxRecDepth 20000 in
set_option maxHeartbeats 1600000 in
theorem tim_part {c : Bool} (s h t : ByteArray) (v x m ns : Int) (b : Bool) (w : World) (hs : s.size ≤ 281474976710656) (hh : h.size ≤ s.size) (htt : t.size ≤ s.size)
    (HC : Hid (cutV 46 s = .tuple #[.string h, .string t, .bool c])) (HP : Lib.parseIntB 64 h.data.toList = .ok v) (ht : t.size ≠ 0) (hd : allDig t.data.toList)
    (hb : (bt h 0 == 45) = b) (hm : m = if b then -((nano t.data.toList : Nat) : Int) else ((nano t.data.toList : Nat) : Int))
    (HU : ∀ w', Calls Tryd.prog 64 #[.int .i64 v, .int .i64 m] w' (TimPost ns x w')) :
    Calls Tryd.prog 56 #[.string s] w (TimPost2 ns x w) := by
  have hh2 : h.size ≤ 281474976710656 := by omega
  have hneq := fun w => run_neq_nil_nil_at (P := Tryd.prog) (w := w) 105 isErr
  have ht2 : ¬ (t.size : Int) = 0 := by omega
  have hpos : 0 < h.size := by
    rcases Nat.eq_zero_or_pos h.size with h0 | h0
    · have e : h.data.toList = [] := List.eq_nil_of_length_eq_zero (by rw [← Lib.size_eq]; exact h0)
      rw [e] at HP
      exact absurd HP (parse_empty v)
    · exact h0
  have hbh := get_bt h
  have hbt := get_bt t
  have hn := nano_lt hd
  have HN := Lib.hid (nine_parse hd)
  obtain ⟨n, hnn⟩ : ∃ n, nano t.data.toList = n := ⟨_, rfl⟩
  rw [hnn] at hm hn HN
  have HD := Lib.hid hd
  have HU2 := Lib.hid HU
  have HM := Lib.hid hm
  clear hd HU hnn hm
  go_enter Tryd.func56, Tryd.ntmps56
  go_wp2_with (first
    | (go_at_call 72; refine (zzCut1 _ _ _ (by omega)).mono ?_; rw [HC.out]; rintro e w' ⟨rfl, n1, rfl⟩)
    | fail)
  have HB0 : Hid (Below w.heap.size w ((w.alloc (.cells #[.int .u64 0, .int .i64 0] 110)).drewN n1)) := Lib.hid (below_drewN ((Below.refl _ w).alloc (Nat.le_refl _) _) n1)
  refine (parseInt_ok64 h v _ hh2 HP).mono ?_
  rintro e w1 ⟨rfl, hb1⟩
  have HB1 : Hid (Below w.heap.size w w1) := Lib.hid (HB0.out.trans (hb1.mono HB0.out.size))
  have HK : Hid (Blk w1 w.heap.size 110 [.int .u64 0, .int .i64 0]) := Lib.hid (((Blk.new w _ [_, _]).drewN n1).below hb1 ((Blk.new w 110 [.int .u64 0, .int .i64 0]).drewN n1).lt)
  have hlt := HK.out.lt
  clear hb1 HC
  go_wp2
  go_loopw [37] (fun i wr => ∃ k : Nat, k ≤ t.size ∧ i = .int .i64 k ∧ Hid (Blk wr w1.heap.size 136 (bys (nineL t.data.toList k))) ∧ Hid (Blk wr w.heap.size 110 [.int .u64 0, .int .i64 0]) ∧ Hid (Below w.heap.size w wr)) (fun i _ => t.size - (intOf i).toNat)
  case atStart => exact ⟨0, by omega, rfl, Lib.hid (nine_start w1 _ _), Lib.hid (HK.out.alloc _), Lib.hid (HB1.out.alloc HB1.out.size _)⟩
  case round =>
    obtain ⟨k, hk, rfl, hA, hZ, hB⟩ := hrel
    by_cases hkt : k < t.size
    · obtain ⟨d1, d2⟩ := allDig_bt t HD.out k hkt
      have e1 : ¬ bt t k < 48 := by omega
      have e2 : ¬ 57 < bt t k := by omega
      by_cases h9 : k < 9
      · obtain ⟨y, q0⟩ := nine_cell hA.out k h9
        have q1 := hA.out.frozen k
        have q2 : (0 : Int) ≤ (k : Int) := by omega
        have q3 : (k : Int) < 9 := by omega
        have HS := Lib.hid (nine_store hA.out h9 hkt)
        go_wp2
        go_roundw
        case rel => exact ⟨k + 1, by omega, by go_num, HS, Lib.hid (hZ.out.far (Nat.ne_of_lt hlt) _), Lib.hid (hB.out.setCell (Nat.le_of_lt hlt) _)⟩
        case measure => simp [intOf]; omega
      · have q3 : ¬ (k : Int) < 9 := by omega
        go_wp2
        go_roundw
        case rel => exact ⟨k + 1, by omega, by go_num, Lib.hid (by rw [nineL_more _ _ (by omega)]; exact hA.out), hZ, hB⟩
        case measure => simp [intOf]; omega
    · obtain rfl : k = t.size := by omega
      have HRB := Lib.hid (RB.of_blk hA.out)
      go_wp2_with (refine wpList_conv_bytes (o := ⟨some 61, _, _, _, _, _⟩) _ rfl (.tmp 60) 62 9 5 rfl Tryd.underlying62 Tryd.underlying5 Tryd.underlying9 _ 9 _ _ (nineL t.data.toList t.size) rfl (nineL_len _ _) HRB.out ?_)
      refine (parseInt_ok64 _ (n : Int) _ (by show (nineL t.data.toList t.size).toArray.size ≤ _; rw [List.size_toArray, nineL_len]; omega) HN.out).mono ?_
      rintro e w2 ⟨rfl, hb2⟩
      have HB2 : Hid (Below w.heap.size w w2) := Lib.hid (hB.out.trans (hb2.mono hB.out.size))
      have HK2 : Hid (Blk w2 w.heap.size 110 [.int .u64 0, .int .i64 0]) := Lib.hid (hZ.out.below hb2 hZ.out.lt)
      clear hb2
      cases b with
      | false =>
        obtain rfl : m = (n : Int) := by simpa using HM.out
        go_wp2_with fail
        refine (HU2.out _).mono ?_
        rintro e w3 ⟨rfl, hb3⟩
        have HB3 : Hid (Below w.heap.size w w3) := Lib.hid (HB2.out.trans (hb3.mono HB2.out.size))
        have HK3 : Hid (Blk w3 w.heap.size 110 [.int .u64 0, .int .i64 0]) := Lib.hid (HK2.out.below hb3 HK2.out.lt)
        have c0 : w3.cell? ⟨w.heap.size, 0, none⟩ = some (.int .u64 0) := by rw [HK3.out.cell]; rfl
        have c1 : w3.cell? ⟨w.heap.size, 1, none⟩ = some (.int .i64 0) := by rw [HK3.out.cell]; rfl
        have f0 := HK3.out.frozen 0
        have f1 := HK3.out.frozen 1
        clear hb3
        go_wp2
        refine bodyPost_ret (results_row_tmp1 rfl _ _ w.heap.size _ [.int .u64 ns, .int .i64 x] _ rfl ((HK3.out.set_ 0 (.int .u64 ns)).set_ 1 (.int .i64 x)) Tryd.underlying110 rfl timInfo) rfl ?_
        exact ⟨rfl, (HB3.out.setCell (Nat.le_refl _) _).setCell (Nat.le_refl _) _⟩
      | true =>
        obtain rfl : m = -(n : Int) := by simpa using HM.out
        have u1 : IntKind.i64.wrap (-(n : Int)) = -(n : Int) := IntWalk.i64_in _ (by omega)
        have u2 : IntKind.i64.wrap (-1 * (n : Int)) = -(n : Int) := by rw [show -1 * (n : Int) = -(n : Int) by omega]; exact u1
        go_wp2_with fail
        refine (HU2.out _).mono ?_
        rintro e w3 ⟨rfl, hb3⟩
        have HB3 : Hid (Below w.heap.size w w3) := Lib.hid (HB2.out.trans (hb3.mono HB2.out.size))
        have HK3 : Hid (Blk w3 w.heap.size 110 [.int .u64 0, .int .i64 0]) := Lib.hid (HK2.out.below hb3 HK2.out.lt)
        have c0 : w3.cell? ⟨w.heap.size, 0, none⟩ = some (.int .u64 0) := by rw [HK3.out.cell]; rfl
        have c1 : w3.cell? ⟨w.heap.size, 1, none⟩ = some (.int .i64 0) := by rw [HK3.out.cell]; rfl
        have f0 := HK3.out.frozen 0
        have f1 := HK3.out.frozen 1
        clear hb3
        go_wp2
        refine bodyPost_ret (results_row_tmp1 rfl _ _ w.heap.size _ [.int .u64 ns, .int .i64 x] _ rfl ((HK3.out.set_ 0 (.int .u64 ns)).set_ 1 (.int .i64 x)) Tryd.underlying110 rfl timInfo) rfl ?_
        exact ⟨rfl, (HB3.out.setCell (Nat.le_refl _) _).setCell (Nat.le_refl _) _⟩
end Go.Proofs.YtlchagphjmfooaaDoor
