/- FnPutRecord: a record that may be told. -/
import Derived.Test.YtlchagphjmfooaaDoorPutL
namespace Go.Proofs.YtlchagphjmfooaaDoor
open Go.RowKit Go.PlainAid
set_option linter.unusedVariables false

set_option maxRecDepth 20000 in
set_option maxHeartbeats 3200000 in
theorem putL_yes {a : Addr} (k v b : ByteArray) (w : World) (h1 : k.size ≤ 2147483647) (h2 : v.size ≤ 2147483647) (h3 : b.size ≤ 2147483647) (nk : ¬ fc 0 k < k.size) (nv : ¬ fc 0 v < v.size) (hok : KeyOk k)
    (hE : Err w.heap.size w 0 a) (hT : Tab w) :
    Calls Tryd.prog 8 #[.string k, .string v, .string b] w fun e w' => e = .returned (.bool true) ∧ Below w.heap.size w w' := by
  have N1 : Hid (decide (fc 0 k < k.size) = false) := Lib.hid (decide_eq_false nk)
  have N2 : Hid (decide (fc 0 v < v.size) = false) := Lib.hid (decide_eq_false nv)
  have HI := Lib.hid (implPut_yes k v (w.alloc (.cells #[.string k, .string v] 27)) h1 h2 nk nv hok (tab_below hT (rec_blk0 _ _ _ _)))
  have HVd := fun w => Lib.hid (implValid k v true w (by omega) (by omega) nk nv (decide_eq_true hok))
  have HK := Lib.hid hok
  have HE := Lib.hid hE
  have NK := Lib.hid nk
  have NV := Lib.hid nv
  have hb := get_bt k
  have hstart : ∃ c : Bool, (!k.toList.isEmpty) = c ∧ (c = true ↔ k.size ≠ 0 ∧ ∀ m, m < 0 → bt k m ≠ ((61 : UInt8).toNat : Int)) :=
    ⟨true, by rw [(empty_no hok.1).2]; rfl, fun _ => ⟨hok.1, fun m hm => by omega⟩, fun _ => rfl⟩
  obtain ⟨c0, hc0, hc1⟩ := hstart
  have HC1 := Lib.hid hc1
  clear hc1 nk nv hok hE hT
  go_enter Tryd.func8, Tryd.ntmps8
  go_wp2_with (go_at_call 15; refine (specHasNUL _ _ (by omega)).mono ?_; (first | rw [N1.out] | rw [N2.out]); rintro e w' ⟨rfl, rfl⟩)
  go_loop [7, 41] (fun g i => ∃ (j : Nat) (c : Bool), j ≤ k.size ∧ i = .int .i64 j ∧ g = .bool c ∧ Hid (c = true ↔ k.size ≠ 0 ∧ ∀ m, m < j → bt k m ≠ ((61 : UInt8).toNat : Int))) (fun _ i => k.size - (intOf i).toNat)
  case atStart => exact ⟨0, c0, by omega, rfl, rfl, HC1⟩
  case round =>
    obtain ⟨j, c, hj, rfl, rfl, hg⟩ := hrel
    by_cases hlt : j < k.size
    · cases c with
      | false =>
        go_wp2
        go_round
        case rel => exact ⟨j + 1, false, by omega, by go_num, rfl, Lib.hid (good_no hg.out)⟩
        case measure => simp [intOf]; omega
      | true =>
        obtain ⟨d, hd⟩ : ∃ d, (bt k j != 61) = d := ⟨_, rfl⟩
        have HD : Hid (d = true ↔ bt k j ≠ 61) := Lib.hid (by rw [← hd]; exact bne_iff_ne)
        go_wp2
        go_round
        case rel => exact ⟨j + 1, d, by omega, by go_num, rfl, Lib.hid (good_step HD.out hg.out)⟩
        case measure => simp [intOf]; omega
    · obtain rfl : j = k.size := by omega
      have hcf : c = true := (good_end hg.out).2 HK.out
      subst hcf
      go_wp2_with fail
      refine HI.out.mono ?_
      rintro e w1 ⟨⟨N, s, hW, hN, rfl⟩, hb1⟩
      have HB1 : Hid (Below w.heap.size w w1) := Lib.hid ((rec_blk0 _ _ _ _).trans (hb1.mono (rec_blk0 _ _ _ _).size))
      have HK1 : Hid (Blk w1 w.heap.size 27 [.string k, .string v]) := Lib.hid ((two_blk0 w _ _ _).below hb1 (two_blk0 w 27 _ _).lt)
      have HW := Lib.hid hW
      have HN := Lib.hid hN
      have hss : s.size ≤ 4294967400 := by rw [hW.size]; exact hN
      have hcat : s.size + b.size ≤ 9223372036854775807 := by omega
      have hts : (s ++ b).size ≤ 281474976710656 := by rw [ByteArray.size_append]; omega
      have hts2 : (s ++ b).size ≤ 4611686018427387904 := by omega
      have HV : Hid (readV (s ++ b) = ⟨k, v, b, 1⟩) := Lib.hid (hW.readV HK.out (by omega) b)
      have HIs := Lib.hid (hW.isRec HK.out (by omega) b)
      clear hb1 hW hN
      go_wp2_with (first
        | (
          go_at_call 14
          refine (specRead' (s ++ b) _ _ _ _ _ hts2 HV).mono ?_
          rintro e w2 ⟨rfl, hb2⟩
          have HB2 : Hid (Below w.heap.size w w2) := Lib.hid (HB1.out.trans (hb2.mono HB1.out.size))
          have HK2 : Hid (Blk w2 w.heap.size 27 [.string k, .string v]) := Lib.hid (HK1.out.below hb2 HK1.out.lt)
          have p2 := HK2.out.lt
          clear hb2)
        | (
          go_at_call 16
          refine (implRead_yes (C := 0) HIs.out _ hts (HE.out.more (HB2.out.alloc HB2.out.size _)) NK.out NV.out).mono ?_
          unfold ImplPost
          rintro e w4 ⟨rfl, hb4⟩
          have HB4 : Hid (Below w.heap.size w w4) := Lib.hid ((HB2.out.alloc HB2.out.size _).trans (hb4.mono (HB2.out.alloc HB2.out.size _).size))
          have HK4 : Hid (Blk w4 w.heap.size 27 [.string k, .string v]) := Lib.hid ((HK2.out.alloc _).below hb4 (HK2.out.alloc _).lt)
          have HS4 : Hid (Blk w4 w2.heap.size 23 [.string k, .string v]) := Lib.hid ((two_blk0 w2 _ _ _).below hb4 (two_blk0 w2 23 _ _).lt)
          have r0 : w4.cell? ⟨w.heap.size, 0, none⟩ = some (.string k) := by rw [HK4.out.cell]; rfl
          have r1 : w4.cell? ⟨w.heap.size, 1, none⟩ = some (.string v) := by rw [HK4.out.cell]; rfl
          have r2 := HK4.out.lt
          have r3 := Nat.ne_of_lt r2
          have s0 : w4.cell? ⟨w2.heap.size, 0, none⟩ = some (.string k) := by rw [HS4.out.cell]; rfl
          have s1 : w4.cell? ⟨w2.heap.size, 1, none⟩ = some (.string v) := by rw [HS4.out.cell]; rfl
          have s2 := HS4.out.lt
          have s3 := Nat.ne_of_lt s2
          clear hb4)
        | (go_at_call 26; refine (HVd _).out.mono ?_; rintro e w5 ⟨rfl, rfl⟩))
      go_ret
      exact ⟨rfl, (HB4.out.alloc HB4.out.size _).alloc (HB4.out.alloc HB4.out.size _).size _⟩
theorem fnPut_walk {a : Addr} (k v b : ByteArray) (w : World) (h1 : k.size ≤ 9223372036854775807) (h2 : v.size ≤ 9223372036854775807) (h3 : b.size ≤ 9223372036854775807)
    (hE : Err w.heap.size w 0 a) (hT : Tab w) :
    Calls Tryd.prog 8 #[.string k, .string v, .string b] w fun e w' => e = .returned (.bool true) ∧ Below w.heap.size w w' := by
  by_cases hs : 2147483647 < k.size ∨ 2147483647 < v.size ∨ 2147483647 < b.size
  · exact putL_big k v b w hs h1 h2 h3
  by_cases hn : fc 0 k < k.size ∨ fc 0 v < v.size
  · exact putL_nul k v b w (by omega) (by omega) (by omega) hn
  by_cases hk : KeyOk k
  · exact putL_yes k v b w (by omega) (by omega) (by omega) (fun h => hn (.inl h)) (fun h => hn (.inr h)) hk hE hT
  · exact putL_no k v b w (by omega) (by omega) (by omega) (fun h => hn (.inl h)) (fun h => hn (.inr h)) hk hE
end Go.Proofs.YtlchagphjmfooaaDoor
