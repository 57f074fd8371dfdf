/- ZZMap01 and impl.Map01 at the records of a map. -/
import Derived.Test.YtlchagphjmfooaaDoorMap2
import Derived.Test.YtlchagphjmfooaaDoorRecs
import Derived.Test.YtlchagphjmfooaaDoorConv
namespace Go.Proofs.YtlchagphjmfooaaDoor
open Go.RowKit Go.PlainAid Go.Maps Go.ChangeMaps Go.MapKept Go.WideMaps
set_option linter.unusedVariables false

theorem map01_size (ps : List (Int × Int)) (hS : SmallP ps) (k : Nat) : (rk (map01 ps) k).size ≤ 4000 ∧ (rv (map01 ps) k).size ≤ 4000 := by
  have h0 : (⟨#[]⟩ : ByteArray).size = 0 := rfl
  match k with
  | 0 =>
    refine ⟨by show keyNum.size ≤ _; decide, ?_⟩
    show (numB ps.length).size ≤ _
    rw [numB_size]
    have := hS.1
    have := numL_le19 (n := ps.length) (by omega)
    omega
  | 1 => exact ⟨by show keyMap.size ≤ _; decide, by show (mkS (jn (nmL ps))).size ≤ _; rw [mkS_len]; exact hS.jn_le⟩
  | k + 2 => exact ⟨by show (⟨#[]⟩ : ByteArray).size ≤ _; omega, by show (⟨#[]⟩ : ByteArray).size ≤ _; omega⟩
def ZZ01 (ps : List (Int × Int)) (w : World) (e : Ending) (w' : World) : Prop :=
  ∃ A c, e = .returned (.tuple #[.slice A ps.length c, .bool true]) ∧ RC w' w'.heap.size A (pcs ps) ∧ Below w.heap.size w w'
set_option maxRecDepth 20000 in
set_option maxHeartbeats 3200000 in
theorem zzMap01 (A : Option Addr) (c B : Nat) (ps : List (Int × Int)) (w : World) (hr : RC w B A (recsV (map01 ps))) (hB : B ≤ w.heap.size) (hS : SmallP ps) (h1 : 1 ≤ ps.length) :
    Calls Tryd.prog 42 #[.slice A 2 c] w (ZZ01 ps w) := by
  have HR := Lib.hid hr
  have HS := Lib.hid hS
  have hmm := @run_makeMap Tryd.prog
  obtain ⟨rs, hrs⟩ : ∃ rs, rs = map01 ps := ⟨_, rfl⟩
  have HLEN : Hid (rs.length = 2) := Lib.hid (by rw [hrs]; rfl)
  have HSZ : Hid (∀ k, (rk rs k).size ≤ 4000 ∧ (rv rs k).size ≤ 4000) := Lib.hid (by rw [hrs]; exact map01_size ps hS)
  have HRS := Lib.hid hrs
  rw [← hrs] at HR
  clear hr hS hrs
  go_enter Tryd.func42, Tryd.ntmps42
  go_wp2
  go_loopw [12] (fun i wr => ∃ k : Nat, k ≤ 2 ∧ i = .int .i64 k ∧ Hid (wr.ownsMap Tryd.prog 9 (plainElem Tryd.prog 9) w.heap.size k (mapOf (rs.take k))) ∧ Hid (Below w.heap.size w wr)) (fun i _ => 2 - (intOf i).toNat)
  case atStart => exact ⟨0, by omega, rfl, Lib.hid (World.ownsMap_made _ _ _ _), Lib.hid ((Below.refl _ _).alloc (Nat.le_refl _) _)⟩
  case round =>
    obtain ⟨k, hk, rfl, hO, hW⟩ := hrel
    by_cases hlt : k < 2
    · obtain ⟨b, off, rfl, _, hc1, hc2⟩ := (HR.out.below (hW.out.mono hB)).rec_ (k := k) (by rw [HLEN.out]; exact hlt)
      have HP : Hid (mapOf (rs.take (k + 1)) = (mapOf (rs.take k)).put (.string (rk rs k).data.toList) (.lit (.string (rv rs k).data.toList))) := Lib.hid (by rw [take_rec rs k (by rw [HLEN.out]; exact hlt), mapOf_snoc])
      have hz := HSZ.out k
      obtain ⟨X, hX⟩ : ∃ X, X = rk rs k := ⟨_, rfl⟩
      obtain ⟨Y, hY⟩ : ∃ Y, Y = rv rs k := ⟨_, rfl⟩
      rw [← hX, ← hY] at HP hz
      rw [← hX] at hc1
      rw [← hY] at hc2
      obtain ⟨hzx, hzy⟩ := hz
      have HK := Lib.hid (keyOf_string_mk Tryd.underlying9 (s := X) (by unfold maxLen; omega))
      have HV := Lib.hid (plainElem_string (H := Unit) Tryd.underlying9 (s := Y) (by unfold maxLen; omega))
      have HOA := Lib.hid (hO.out.alloc (.cells #[.string X, .string Y] 88))
      have HWA := Lib.hid (hW.out.alloc (o := .cells #[.string X, .string Y] 88) hW.out.size)
      clear hX hY
      go_wp2_with (at_mapUpdate; refine wpList_mapUpdate_own _ rfl _ _ _ 115 rfl 9 9 strKeyed Tryd.underlying115 _ w.heap.size k _ rfl HOA.out (by unfold maxLen; omega) _ _ _ rfl rfl HK.out _ [] HV.out ?_)
      intro w2 ho2 hg2
      have HO2 : Hid (w2.ownsMap Tryd.prog 9 (plainElem Tryd.prog 9) w.heap.size (k + 1) (mapOf (rs.take (k + 1)))) := Lib.hid (by rw [HP.out]; exact ho2)
      have HW2 := Lib.hid (HWA.out.grown hg2 HWA.out.size (fun j hj => by cases hj; exact Nat.le_refl _))
      clear ho2 hg2
      go_wp2
      go_roundw
      case rel => exact ⟨k + 1, by omega, by go_num, HO2, HW2⟩
      case measure => simp [intOf]; omega
    · obtain rfl : k = 2 := by omega
      have HO2 : Hid (wr.ownsMap Tryd.prog 9 (plainElem Tryd.prog 9) w.heap.size 2 (mapOf (map01 ps))) := Lib.hid (by have h := hO.out; rw [List.take_of_length_le (by rw [HLEN.out]; exact Nat.le_refl _), HRS.out] at h; exact h)
      have HSW := Lib.hid hW.out.size
      go_wp2_with fail
      refine (readMap01 w.heap.size 2 ps _ HO2.out HS.out h1).mono ?_
      rintro e w2 ⟨v, rfl, ho, hb⟩
      obtain ⟨A2, c2, rfl, _, _, _⟩ := own_form ho
      have HB2 := Lib.hid (hW.out.trans (hb.mono HSW.out))
      have HR2 := Lib.hid (RC.of_own ho)
      clear ho hb
      go_wp2_with fail
      refine (zzOut_any A2 ps.length c2 _ ps _ rfl HR2.out (Nat.le_refl _) (by have := HS.out.1; omega)).mono ?_
      rintro e w3 ⟨v3, rfl, ho3, hb3⟩
      obtain ⟨A3, c3, rfl, _, _, _⟩ := own_form ho3
      have HB3 := Lib.hid (HB2.out.trans (hb3.mono HB2.out.size))
      have HR3 := Lib.hid (RC.of_own ho3)
      clear ho3 hb3
      go_wp2
      go_ret2
      exact ⟨A3, c3, rfl, HR3.out, HB3.out⟩

theorem recinfo : (Tryd.prog.info? 88).map (fun i => (i.zero, i.size, i.bytes)) = some (some (.agg #[.string ⟨#[]⟩, .string ⟨#[]⟩]), 2, 32) := by kernel_rfl
set_option maxRecDepth 20000 in
set_option maxHeartbeats 3200000 in
theorem implMap01 (A : Option Addr) (c B : Nat) (ps : List (Int × Int)) (w : World) (hr : RC w B A (recsV (map01 ps))) (hB : B ≤ w.heap.size) (hS : SmallP ps) (h1 : 1 ≤ ps.length) :
    Calls Tryd.prog 24 #[.slice A 2 c] w (ZZ01 ps w) := by
  have HR := Lib.hid hr
  have HS := Lib.hid hS
  obtain ⟨rs, hrs⟩ : ∃ rs, rs = map01 ps := ⟨_, rfl⟩
  have HLEN : Hid (rs.length = 2) := Lib.hid (by rw [hrs]; rfl)
  have HRS := Lib.hid hrs
  rw [← hrs] at HR
  clear hr hS hrs
  go_enter Tryd.func24, Tryd.ntmps24
  go_wp2
  go_loopw [4, 11] (fun v i wr => ∃ k : Nat, k ≤ 2 ∧ i = .int .i64 k ∧ wr.ownsRow w.heap.size 88 2 v k (recsV (rs.take k)) ∧ Below w.heap.size w wr) (fun _ i _ => 2 - (intOf i).toNat)
  case atStart => exact ⟨0, by omega, rfl, World.ownsRow_nil _ _ _ _, Below.refl _ _⟩
  case round =>
    obtain ⟨k, hk, rfl, hown, hb⟩ := hrel
    by_cases hlt : k < 2
    · obtain ⟨b, off, rfl, _, hc1, hc2⟩ := (HR.out.below (hb.mono hB)).rec_ (k := k) (by rw [HLEN.out]; exact hlt)
      have HO := Lib.hid hown
      have HB := Lib.hid hb
      clear hown hb
      have HB2 := Lib.hid (((HB.out.alloc (o := .cells #[.string (rk rs k), .string (rv rs k)] 27) HB.out.size).alloc (o := .cells #[.string (rk rs k), .string (rv rs k)] 88) (by have := HB.out.size; simp; omega)))
      go_wp2_with (refine wpList_append_rc (o := ⟨some 18, _, _, _, _, _⟩) _ rfl (.tmp 15) (.tmp 17) _ rfl w.heap.size 88 _ 2 32 Tryd.underlying87 recinfo rfl (by omega) _ k _ rfl ((HO.out.alloc _).alloc _) _ 1 1 _ _ rfl rfl (rc_new2 _ _ _ _) (two_strs _ _) (by omega) (by omega) (by have := HB.out.size; simp; omega) ?_)
      intro v' w1 h1 h2 h3
      have HP := Lib.hid (recsV_take rs k (by rw [HLEN.out]; exact hlt))
      go_wp2
      go_roundw
      case rel => exact ⟨k + 1, by omega, by go_num, by rw [HP.out]; exact h1.out, HB2.out.grown h2.out (by have := HB.out.size; simp; omega) (fun g hg => (HO.out.lt g hg).1)⟩
      case measure => simp [intOf]; omega
    · obtain rfl : k = 2 := by omega
      have HT : Hid (rs.take 2 = map01 ps) := by show _ = _; rw [List.take_of_length_le (by rw [HLEN.out]; exact Nat.le_refl _), HRS.out]
      rw [HT.out] at hown
      obtain ⟨A2, c2, rfl, _, _, _⟩ := own_form hown
      have HR2 := Lib.hid (RC.of_own hown)
      have HB := Lib.hid hb
      clear hown hb
      go_wp2_with fail
      refine (zzMap01 A2 c2 _ ps _ HR2.out (Nat.le_refl _) HS.out h1).mono ?_
      rintro e w2 ⟨A3, c3, rfl, hr3, hb3⟩
      have HR3 := Lib.hid hr3
      have HB3 := Lib.hid (HB.out.trans (hb3.mono HB.out.size))
      clear hr3 hb3
      go_wp2_with fail
      refine (implBack_any A3 ps.length c3 _ ps _ rfl HR3.out (Nat.le_refl _) (by have := HS.out.1; omega)).mono ?_
      rintro e w3 ⟨v4, rfl, ho4, hb4⟩
      obtain ⟨A4, c4, rfl, _, _, _⟩ := own_form ho4
      have HB4 := Lib.hid (HB3.out.trans (hb4.mono HB3.out.size))
      have HR4 := Lib.hid (RC.of_own ho4)
      clear ho4 hb4
      go_wp2
      go_ret2
      exact ⟨A4, c4, rfl, HR4.out, HB4.out⟩
end Go.Proofs.YtlchagphjmfooaaDoor
