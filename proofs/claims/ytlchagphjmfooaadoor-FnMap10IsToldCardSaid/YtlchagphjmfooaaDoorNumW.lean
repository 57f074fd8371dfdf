/- The walk of spec.number. -/
import Derived.Test.YtlchagphjmfooaaDoorNum
namespace Go.Proofs.YtlchagphjmfooaaDoor
open Go.RowKit Go.PlainAid
set_option linter.unusedVariables false

theorem numL_le19 {n : Nat} (hn : n ≤ 9223372036854775807) : (numL n).length ≤ 19 := by
  by_cases h : 10 ≤ n
  · have g := numL_ge n h
    rcases Nat.lt_or_ge 19 (numL n).length with h2 | h2
    · have := Nat.pow_le_pow_right (n := 10) (by omega) (show 19 ≤ (numL n).length - 1 by omega)
      have e : (10 : Nat) ^ 19 = 10000000000000000000 := by decide
      omega
    · exact h2
  · rw [numL_small (by omega)]; simp
theorem ba_ext {a b : ByteArray} (h : a.data.toList = b.data.toList) : a = b := by
  cases a; cases b
  simp at h
  rw [h]
set_option maxRecDepth 20000 in
set_option maxHeartbeats 1600000 in
theorem number_nat (n : Nat) (w : World) (hn : n ≤ 9223372036854775807) :
    Calls Tryd.prog 40 #[.int .i64 n] w fun e w' => e = .returned (.string (numB n)) ∧ Below w.heap.size w w' := by
  go_enter Tryd.func40, Tryd.ntmps40
  go_wp2
  go_loopw [0, 3] (fun a s wr => ∃ (m : Nat) (t : ByteArray), a = .int .i64 m ∧ s = .string t ∧ m ≤ n ∧ Hid (numL m ++ t.data.toList = numL n) ∧ Hid (Below w.heap.size w wr)) (fun a _ _ => (intOf a).toNat)
  case atStart => exact ⟨n, ⟨#[]⟩, rfl, rfl, by omega, Lib.hid (by simp), Lib.hid (Below.refl _ _)⟩
  case round =>
    obtain ⟨m, t, rfl, rfl, hm, hl, hB⟩ := hrel
    obtain ⟨d, hd⟩ : ∃ d, UInt8.ofNat (48 + m % 10) = d := ⟨_, rfl⟩
    have hdn : d.toNat = 48 + m % 10 := by rw [← hd, digB_toNat (by omega)]
    obtain ⟨r, hr⟩ : ∃ r : Nat, r = m % 10 := ⟨_, rfl⟩
    obtain ⟨q, hq⟩ : ∃ q : Nat, q = m / 10 := ⟨_, rfl⟩
    have u1 : (m : Int).tmod 10 = (r : Int) := by rw [Int.tmod_eq_emod_of_nonneg (by omega)]; omega
    have u2 : (m : Int).tdiv 10 = (q : Int) := by rw [Int.tdiv_eq_ediv_of_nonneg (by omega)]; omega
    have u3 : IntKind.i64.wrap (48 + (r : Int)) = 48 + (r : Int) := IntWalk.i64_in _ (by omega)
    have hr9 : r ≤ 9 := by omega
    have u4 : IntKind.u8.wrap (48 + (r : Int)) = (d.toNat : Int) := by
      rw [IntWalk.u8_in _ ⟨by omega, by omega⟩, hdn, ← hr]
      omega
    have u7 : (m : Int) / 10 = (q : Int) := by omega
    have h19 : t.size ≤ 19 := by
      have e1 := congrArg List.length hl.out
      have e2 := numL_le19 hn
      have e3 := Lib.size_eq t
      rw [List.length_append] at e1
      omega
    have hsz : (mkS [d]).size + t.size ≤ 9223372036854775807 := by
      have : (mkS [d]).size = 1 := rfl
      omega
    have u5 : IntKind.i64.wrap (q : Int) = (q : Int) := IntWalk.i64_in _ (by omega)
    have u6 : IntKind.i64.wrap (r : Int) = (r : Int) := IntWalk.i64_in _ (by omega)
    have HRB : Hid (RB (wr.alloc (.cells #[.int .u8 (d.toNat : Int)] 5)) (wr.heap.size + 1) (some ⟨wr.heap.size, 0, none⟩) [d]) := Lib.hid (RB.of_blk (Blk.new wr _ (bys [d])))
    have HT : Hid ((mkS [d] ++ t).data.toList = d :: t.data.toList) := Lib.hid (by simp [mkS])
    have HN1 : Hid (m < 10 → mkS [d] ++ t = numB n) := Lib.hid (fun h => by
      have e := hl.out
      rw [numL_small h, show m = m % 10 by omega, hd] at e
      apply ba_ext
      rw [HT.out]
      simpa [numB] using e)
    have HN2 : Hid (¬ m < 10 → numL q ++ (mkS [d] ++ t).data.toList = numL n) := Lib.hid (fun h => by
      have e := hl.out
      rw [numL_big h, hd, ← hq, List.append_assoc] at e
      rw [HT.out]
      exact e)
    have HR := Lib.hid hr
    have HQ := Lib.hid hq
    have HD := Lib.hid hd
    have hqm : q ≤ n := by omega
    have HM : Hid (¬ m < 10 → q < m) := Lib.hid (fun h => by omega)
    have hz2' : m < 10 → (q : Int) = 0 := fun h => by omega
    have hz4' : ¬ m < 10 → ((q : Int) == 0) = false := fun h => by rw [beq_eq_false_iff_ne]; omega
    clear hr hdn hd hq
    by_cases hz : m < 10
    · have hz2 : (q : Int) = 0 := hz2' hz
      have HZ := Lib.hid hz
      clear hz2' hz4' hz
      have hz3 : ((q : Int) == 0) = true := by simpa using hz2
      go_wp2_with (refine wpList_conv_bytes (o := ⟨some 9, _, _, _, _, _⟩) _ rfl (.tmp 8) 62 9 5 rfl Tryd.underlying62 Tryd.underlying5 Tryd.underlying9 _ 1 _ _ [d] rfl rfl HRB.out ?_)
      go_ret
      exact ⟨by rw [HN1.out HZ.out]; rfl, hB.out.alloc hB.out.size _⟩
    · have hz3 := hz4' hz
      have HZ := Lib.hid hz
      clear hz2' hz4' hz
      go_wp2_with (refine wpList_conv_bytes (o := ⟨some 9, _, _, _, _, _⟩) _ rfl (.tmp 8) 62 9 5 rfl Tryd.underlying62 Tryd.underlying5 Tryd.underlying9 _ 1 _ _ [d] rfl rfl HRB.out ?_)
      go_roundw
      case rel => exact ⟨q, mkS [d] ++ t, rfl, rfl, hqm, Lib.hid (HN2.out HZ.out), Lib.hid (hB.out.alloc hB.out.size _)⟩
      case measure => have := HM.out HZ.out; simp [intOf]; omega
end Go.Proofs.YtlchagphjmfooaaDoor
