/- FnPutRecord's ways. -/
import Derived.Test.YtlchagphjmfooaaDoorPutR
namespace Go.Proofs.YtlchagphjmfooaaDoor
open Go.RowKit Go.PlainAid
set_option linter.unusedVariables false

set_option maxRecDepth 20000 in
set_option maxHeartbeats 800000 in
theorem putL_big (k v b : ByteArray) (w : World) (hs : 2147483647 < k.size ∨ 2147483647 < v.size ∨ 2147483647 < b.size) (h1 : k.size ≤ 9223372036854775807) (h2 : v.size ≤ 9223372036854775807) (h3 : b.size ≤ 9223372036854775807) :
    Calls Tryd.prog 8 #[.string k, .string v, .string b] w fun e w' => e = .returned (.bool true) ∧ Below w.heap.size w w' := by
  by_cases c1 : 2147483647 < k.size
  · clear hs
    go_enter Tryd.func8, Tryd.ntmps8
    go_wp2_with fail
    go_ret
    exact ⟨rfl, Below.refl _ _⟩
  by_cases c2 : 2147483647 < v.size
  · clear hs
    go_enter Tryd.func8, Tryd.ntmps8
    go_wp2_with fail
    go_ret
    exact ⟨rfl, Below.refl _ _⟩
  have c3 : 2147483647 < b.size := by omega
  clear hs
  go_enter Tryd.func8, Tryd.ntmps8
  go_wp2_with fail
  go_ret
  exact ⟨rfl, Below.refl _ _⟩
set_option maxRecDepth 20000 in
set_option maxHeartbeats 800000 in
theorem putL_nul (k v b : ByteArray) (w : World) (h1 : k.size ≤ 2147483647) (h2 : v.size ≤ 2147483647) (h3 : b.size ≤ 2147483647) (hn : fc 0 k < k.size ∨ fc 0 v < v.size) :
    Calls Tryd.prog 8 #[.string k, .string v, .string b] w fun e w' => e = .returned (.bool true) ∧ Below w.heap.size w w' := by
  by_cases nk : fc 0 k < k.size
  · have N1 : Hid (decide (fc 0 k < k.size) = true) := Lib.hid (decide_eq_true nk)
    clear nk hn
    go_enter Tryd.func8, Tryd.ntmps8
    go_wp2_with (go_at_call 15; refine (specHasNUL _ _ (by omega)).mono ?_; rw [N1.out]; rintro e w' ⟨rfl, rfl⟩)
    go_ret
    exact ⟨rfl, Below.refl _ _⟩
  · have N1 : Hid (decide (fc 0 k < k.size) = false) := Lib.hid (decide_eq_false nk)
    have N2 : Hid (decide (fc 0 v < v.size) = true) := Lib.hid (decide_eq_true (hn.resolve_left nk))
    clear nk hn
    go_enter Tryd.func8, Tryd.ntmps8
    go_wp2_with (go_at_call 15; refine (specHasNUL _ _ (by omega)).mono ?_; (first | rw [N1.out] | rw [N2.out]); rintro e w' ⟨rfl, rfl⟩)
    go_ret
    exact ⟨rfl, Below.refl _ _⟩
theorem good_end {k : ByteArray} {c : Bool} (h : c = true ↔ k.size ≠ 0 ∧ ∀ m, m < k.size → bt k m ≠ ((61 : UInt8).toNat : Int)) : c = true ↔ KeyOk k := by
  rw [h]
  unfold KeyOk
  constructor
  · rintro ⟨a, b⟩
    refine ⟨a, ?_⟩
    rw [fc_all 61 k b]
    omega
  · rintro ⟨a, b⟩
    refine ⟨a, fun m hm e => ?_⟩
    obtain ⟨c, e1, e2⟩ := bt_of k m hm
    have hmem : c ∈ k.data.toList := List.mem_of_getElem? e1
    exact fc_none 61 k b c hmem (UInt8.toNat_inj.1 (by omega))
theorem good_no {k : ByteArray} {j : Nat} (h : false = true ↔ k.size ≠ 0 ∧ ∀ m, m < j → bt k m ≠ ((61 : UInt8).toNat : Int)) : false = true ↔ k.size ≠ 0 ∧ ∀ m, m < j + 1 → bt k m ≠ ((61 : UInt8).toNat : Int) := by
  constructor
  · intro h2; cases h2
  · rintro ⟨a, b⟩
    exact h.2 ⟨a, fun m hm => b m (by omega)⟩
theorem good_step {k : ByteArray} {j : Nat} {c : Bool} (hc : c = true ↔ bt k j ≠ 61) (h : true = true ↔ k.size ≠ 0 ∧ ∀ m, m < j → bt k m ≠ ((61 : UInt8).toNat : Int)) : c = true ↔ k.size ≠ 0 ∧ ∀ m, m < j + 1 → bt k m ≠ ((61 : UInt8).toNat : Int) := by
  obtain ⟨a, b⟩ := h.1 rfl
  rw [hc]
  constructor
  · intro h2
    exact ⟨a, ne_succ b h2⟩
  · rintro ⟨_, h2⟩
    exact h2 j (by omega)

set_option maxRecDepth 20000 in
set_option maxHeartbeats 1600000 in
theorem putL_no {a : Addr} (k v b : ByteArray) (w : World) (h1 : k.size ≤ 2147483647) (h2 : v.size ≤ 2147483647) (h3 : b.size ≤ 2147483647) (nk : ¬ fc 0 k < k.size) (nv : ¬ fc 0 v < v.size) (hbad : ¬ KeyOk k)
    (hE : Err w.heap.size w 0 a) :
    Calls Tryd.prog 8 #[.string k, .string v, .string b] w fun e w' => e = .returned (.bool true) ∧ Below w.heap.size w w' := by
  have N1 : Hid (decide (fc 0 k < k.size) = false) := Lib.hid (decide_eq_false nk)
  have N2 : Hid (decide (fc 0 v < v.size) = false) := Lib.hid (decide_eq_false nv)
  have HI := Lib.hid (implPut_no k v (w.alloc (.cells #[.string k, .string v] 27)) h1 h2 nk nv hbad (hE.more (rec_blk0 _ _ _ _)))
  have HVd := fun w => Lib.hid (implValid k v false w (by omega) (by omega) nk nv (decide_eq_false hbad))
  have HK := Lib.hid hbad
  have hb := get_bt k
  have ek1 := fun (h : k.size = 0) => empty_yes h
  have ek2 := fun (h : ¬ k.size = 0) => empty_no h
  clear nk nv hbad hE
  have hstart : ∃ c : Bool, (!k.toList.isEmpty) = c ∧ (c = true ↔ k.size ≠ 0 ∧ ∀ m, m < 0 → bt k m ≠ ((61 : UInt8).toNat : Int)) := by
    by_cases h : k.size = 0
    · exact ⟨false, by rw [(ek1 h).2]; rfl, fun h => by (cases h), fun h2 => absurd h h2.1⟩
    · exact ⟨true, by rw [(ek2 h).2]; rfl, fun _ => ⟨h, fun m hm => by omega⟩, fun _ => rfl⟩
  obtain ⟨c0, hc0, hc1⟩ := hstart
  have HC1 := Lib.hid hc1
  clear hc1 ek1 ek2
  go_enter Tryd.func8, Tryd.ntmps8
  go_wp2_with (go_at_call 15; refine (specHasNUL _ _ (by omega)).mono ?_; (first | rw [N1.out] | rw [N2.out]); rintro e w' ⟨rfl, rfl⟩)
  go_loop [7, 41] (fun g i => ∃ (j : Nat) (c : Bool), j ≤ k.size ∧ i = .int .i64 j ∧ g = .bool c ∧ Hid (c = true ↔ k.size ≠ 0 ∧ ∀ m, m < j → bt k m ≠ ((61 : UInt8).toNat : Int))) (fun _ i => k.size - (intOf i).toNat)
  case atStart => exact ⟨0, c0, by omega, rfl, rfl, HC1⟩
  case round =>
    obtain ⟨j, c, hj, rfl, rfl, hg⟩ := hrel
    by_cases hlt : j < k.size
    · cases c with
      | false =>
        go_wp2
        go_round
        case rel => exact ⟨j + 1, false, by omega, by go_num, rfl, Lib.hid (good_no hg.out)⟩
        case measure => simp [intOf]; omega
      | true =>
        obtain ⟨d, hd⟩ : ∃ d, (bt k j != 61) = d := ⟨_, rfl⟩
        have HD : Hid (d = true ↔ bt k j ≠ 61) := Lib.hid (by rw [← hd]; exact bne_iff_ne)
        go_wp2
        go_round
        case rel => exact ⟨j + 1, d, by omega, by go_num, rfl, Lib.hid (good_step HD.out hg.out)⟩
        case measure => simp [intOf]; omega
    · obtain rfl : j = k.size := by omega
      have hcf : c = false := by
        cases c with
        | false => rfl
        | true => exact absurd ((good_end hg.out).1 rfl) HK.out
      subst hcf
      go_wp2_with (first
        | (go_at_call 25; refine HI.out.mono ?_; rintro e w1 ⟨rfl, hb1⟩; have HB1 : Hid (Below w.heap.size w w1) := Lib.hid ((rec_blk0 _ _ _ _).trans (hb1.mono (rec_blk0 _ _ _ _).size)); have HK1 : Hid (Blk w1 w.heap.size 27 [.string k, .string v]) := Lib.hid ((two_blk0 w _ _ _).below hb1 (two_blk0 w 27 _ _).lt); have p0 : w1.cell? ⟨w.heap.size, 0, none⟩ = some (.string k) := by rw [HK1.out.cell]; rfl
           have p1 : w1.cell? ⟨w.heap.size, 1, none⟩ = some (.string v) := by rw [HK1.out.cell]; rfl
           have p2 := HK1.out.lt
           have p3 := Nat.ne_of_lt p2
           clear hb1)
        | (go_at_call 26; refine (HVd _).out.mono ?_; rintro e w2 ⟨rfl, rfl⟩))
      go_ret
      exact ⟨rfl, HB1.out.alloc HB1.out.size _⟩
end Go.Proofs.YtlchagphjmfooaaDoor
