/- spec.Strange, spec.promoted: walks. -/
import Derived.Test.YtepeehjajhehfaaGreatDoorVt
import Derived.Test.YtepeehjajhehfaaGreatDoorRecs
namespace Go.Proofs.YtepeehjajhehfaaGreatDoor
open Go.RowKit Go.PlainAid
set_option linter.unusedVariables false

/-- Not strange: its format, its times. -/
def NotStrange (h : Hd) : Prop := 0 ≤ h.fm ∧ h.fm ≤ 3 ∧ oddB h.ms h.mn = false ∧ (h.ha = true → oddB h.as_ h.an = false) ∧ (h.hc = true → oddB h.cs h.cn = false)
def StrangeP (h : Hd) (w : World) (e : Ending) (w' : World) : Prop := ∃ b : Bool, e = .returned (.bool b) ∧ (b = false → NotStrange h) ∧ Below w.heap.size w w'
/-- The records of a header lie in memory. -/
structure Hd.Recs (h : Hd) (B : Nat) (rs : List (ByteArray × ByteArray)) (w : World) : Prop where
  len : rs.length = h.rn
  row : RC w B h.rA (recsV rs)
  big : h.rn ≤ 2147483647
  small : ∀ k, (rk rs k).size ≤ 2147483647 ∧ (rv rs k).size ≤ 2147483647
theorem Hd.Recs.below {h : Hd} {B C : Nat} {rs : List (ByteArray × ByteArray)} {w w' : World} (r : h.Recs B rs w) (hb : Below C w w') (hB : B ≤ C) : h.Recs B rs w' := ⟨r.len, r.row.below (hb.mono hB), r.big, r.small⟩
set_option maxRecDepth 20000 in
set_option maxHeartbeats 3200000 in
theorem specStrange (h : Hd) (B : Nat) (rs : List (ByteArray × ByteArray)) (w : World) (hr : h.Recs B rs w) (hB : B ≤ w.heap.size) :
    Calls Tryz.prog 17 #[h.val] w (StrangeP h w) := by
  have HR := Lib.hid hr
  have HB0 : Hid (Blk (w.alloc (.cells h.arr 32)) w.heap.size 32 h.cells) := Lib.hid (h.blk w _)
  have HW0 : Hid (Below w.heap.size w (w.alloc (.cells h.arr 32))) := Lib.hid ((Below.refl _ _).alloc (Nat.le_refl _) _)
  unfold Hd.val
  clear hr
  go_enter Tryz.func17, Tryz.ntmps17
  go_upto_region 1 with fail
  generalize w.alloc (.cells h.arr 32) = w1 at HB0 HW0 ⊢
  obtain ⟨H, hH⟩ : ∃ H, w.heap.size = H := ⟨_, rfl⟩
  rw [hH] at HB0 HW0 hB
  rw [hH]
  have HH := Lib.hid hH
  clear hH
  obtain ⟨rA, hrA⟩ : ∃ x, h.rA = x := ⟨_, rfl⟩
  obtain ⟨rn, hrn⟩ : ∃ x, h.rn = x := ⟨_, rfl⟩
  have HRA := Lib.hid hrA
  have HRN := Lib.hid hrn
  have c1 := HB0.out.cell 1
  have c2 := HB0.out.cell 2
  have c7 := HB0.out.cell 7
  have c8 := HB0.out.cell 8
  have c19 : w1.cell? ⟨H, 19, none⟩ = some (.slice rA rn h.rc) := by rw [← hrA, ← hrn]; exact HB0.out.cell 19
  have d1 : w1.cell? ⟨H, 1, none⟩ = some (.string h.name) := c1
  have d2 : w1.cell? ⟨H, 2, none⟩ = some (.string h.link) := c2
  have d7 : w1.cell? ⟨H, 7, none⟩ = some (.string h.un) := c7
  have d8 : w1.cell? ⟨H, 8, none⟩ = some (.string h.gn) := c8
  have hbig : rn ≤ 2147483647 := by rw [← hrn]; exact HR.out.big
  clear c1 c2 c7 c8 hrA hrn
  go_wp2
  go_loopw [3, 24] (fun v i wr => ∃ (k : Nat) (y : Int), k ≤ rn ∧ i = .int .i64 k ∧ v = .int .i64 y ∧ Hid (Below w1.heap.size w1 wr)) (fun _ i _ => rn - (intOf i).toNat)
  case atStart => exact ⟨0, _, by omega, rfl, rfl, Lib.hid (Below.refl _ _)⟩
  case round =>
    obtain ⟨k, y, hk, rfl, rfl, HW⟩ := hrel
    clear c19 d1 d2 d7 d8
    by_cases hlt : k < rn
    · obtain ⟨b, off, hA, hbB, q1, q2⟩ := ((HR.out.below HW0.out hB).below HW.out (by have := HW0.out.size; have := HH.out; omega)).row.rec_ (k := k) (by rw [HR.out.len, HRN.out]; exact hlt)
      rw [HRA.out] at hA
      subst hA
      have hk0 : (0 : Int) ≤ (k : Int) := by omega
      have hk1 : (k : Int) < (rn : Int) := by omega
      obtain ⟨X, hX⟩ : ∃ X, rk rs k = X := ⟨_, rfl⟩
      obtain ⟨Y, hY⟩ : ∃ Y, rv rs k = Y := ⟨_, rfl⟩
      rw [hX] at q1
      rw [hY] at q2
      clear hX hY
      have HW2 : Hid (Below w1.heap.size w1 (wr.alloc (.cells #[.string X, .string Y] 60))) := Lib.hid (HW.out.alloc HW.out.size _)
      go_wp2
      go_roundw
      case rel => exact ⟨k + 1, _, by omega, by go_num, rfl, HW2⟩
      case measure => simp [intOf]; omega
    · obtain rfl : k = rn := by omega
      have HBH : Hid (Blk wr H 32 h.cells) := Lib.hid (HB0.out.below HW.out HB0.out.lt)
      have HWF : Hid (Below w.heap.size w wr) := Lib.hid (by rw [HH.out]; exact HW0.out.trans (HW.out.mono (by have := HW0.out.size; have := HH.out; omega)))
      have d20 : wr.cell? ⟨H, 20, none⟩ = some (.int .i64 h.fm) := HBH.out.cell 20
      have d9 : wr.cell? ⟨H, 9, none⟩ = some (.int .i64 h.ms) := HBH.out.cell 9
      have d10 : wr.cell? ⟨H, 10, none⟩ = some (.int .i64 h.mn) := HBH.out.cell 10
      obtain ⟨F, hF⟩ : ∃ F, h.fm = F := ⟨_, rfl⟩
      obtain ⟨o1, ho1⟩ : ∃ b, oddB h.ms h.mn = b := ⟨_, rfl⟩
      obtain ⟨o2, ho2⟩ : ∃ b, oddB h.as_ h.an = b := ⟨_, rfl⟩
      obtain ⟨o3, ho3⟩ : ∃ b, oddB h.cs h.cn = b := ⟨_, rfl⟩
      obtain ⟨ha, hha⟩ : ∃ b, h.ha = b := ⟨_, rfl⟩
      obtain ⟨hc, hhc⟩ : ∃ b, h.hc = b := ⟨_, rfl⟩
      have HNS : Hid (NotStrange h = (0 ≤ F ∧ F ≤ 3 ∧ o1 = false ∧ (ha = true → o2 = false) ∧ (hc = true → o3 = false))) := Lib.hid (by unfold NotStrange; rw [hF, ho1, ho2, ho3, hha, hhc])
      have HO1 := fun w => Lib.hid (specOdd h.ms h.mn w)
      have HO2 := fun w => Lib.hid (specOdd h.as_ h.an w)
      have HO3 := fun w => Lib.hid (specOdd h.cs h.cn w)
      rw [ho1] at HO1
      rw [ho2] at HO2
      rw [ho3] at HO3
      rw [hF] at d20
      clear hF ho1 ho2 ho3
      by_cases x1 : 524288 < y
      · go_wp2
        go_ret
        exact ⟨true, rfl, (fun e => by cases e), HWF.out⟩
      by_cases x2 : F < 0
      · go_wp2
        go_ret
        exact ⟨true, rfl, (fun e => by cases e), HWF.out⟩
      by_cases x3 : 3 < F
      · go_wp2
        go_ret
        exact ⟨true, rfl, (fun e => by cases e), HWF.out⟩
      go_wp2_with fail
      refine (HO1 _).out.mono ?_
      rintro e w2 ⟨rfl, hb2⟩
      have HBH2 : Hid (Blk w2 H 32 h.cells) := Lib.hid (HBH.out.below hb2 HBH.out.lt)
      have HW2 : Hid (Below w.heap.size w w2) := Lib.hid (HWF.out.trans (hb2.mono HWF.out.size))
      clear hb2 d20 d9 d10
      cases o1 with
      | true =>
        go_wp2
        go_ret
        exact ⟨true, rfl, (fun e => by cases e), HW2.out⟩
      | false =>
        cases ha with
        | false =>
          have g2a : w2.cell? ⟨H, 11, none⟩ = some (.bool false) := by rw [← hha]; exact HBH2.out.cell 11
          cases hc with
          | false =>
            have g2c : w2.cell? ⟨H, 12, none⟩ = some (.bool false) := by rw [← hhc]; exact HBH2.out.cell 12
            go_wp2
            go_ret
            exact ⟨false, rfl, (fun _ => by rw [HNS.out]; exact ⟨by omega, by omega, by simp, by simp, by simp⟩), HW2.out⟩
          | true =>
            have g2c : w2.cell? ⟨H, 12, none⟩ = some (.bool true) := by rw [← hhc]; exact HBH2.out.cell 12
            have g2_15 : w2.cell? ⟨H, 15, none⟩ = some (.int .i64 h.cs) := HBH2.out.cell 15
            have g2_16 : w2.cell? ⟨H, 16, none⟩ = some (.int .i64 h.cn) := HBH2.out.cell 16
            go_wp2_with fail
            refine (HO3 _).out.mono ?_
            rintro e w9 ⟨rfl, hb9⟩
            have HW9 : Hid (Below w.heap.size w w9) := Lib.hid (HW2.out.trans (hb9.mono HW2.out.size))
            clear hb9
            go_wp2
            go_ret
            exact ⟨o3, rfl, (fun e3 => by rw [HNS.out]; exact ⟨by omega, by omega, by simp, by simp, by first | exact e3 | exact fun _ => e3⟩), HW9.out⟩
        | true =>
          have g2a : w2.cell? ⟨H, 11, none⟩ = some (.bool true) := by rw [← hha]; exact HBH2.out.cell 11
          have g2_13 : w2.cell? ⟨H, 13, none⟩ = some (.int .i64 h.as_) := HBH2.out.cell 13
          have g2_14 : w2.cell? ⟨H, 14, none⟩ = some (.int .i64 h.an) := HBH2.out.cell 14
          go_wp2_with fail
          refine (HO2 _).out.mono ?_
          rintro e w3 ⟨rfl, hb3⟩
          have HBH3 : Hid (Blk w3 H 32 h.cells) := Lib.hid (HBH2.out.below hb3 HBH2.out.lt)
          have HW3 : Hid (Below w.heap.size w w3) := Lib.hid (HW2.out.trans (hb3.mono HW2.out.size))
          clear hb3 g2a g2_13 g2_14
          cases o2 with
          | true =>
            go_wp2
            go_ret
            exact ⟨true, rfl, (fun e => by cases e), HW3.out⟩
          | false =>
            cases hc with
            | false =>
              have g3c : w3.cell? ⟨H, 12, none⟩ = some (.bool false) := by rw [← hhc]; exact HBH3.out.cell 12
              go_wp2
              go_ret
              exact ⟨false, rfl, (fun _ => by rw [HNS.out]; exact ⟨by omega, by omega, by simp, by simp, by simp⟩), HW3.out⟩
            | true =>
              have g3c : w3.cell? ⟨H, 12, none⟩ = some (.bool true) := by rw [← hhc]; exact HBH3.out.cell 12
              have g3_15 : w3.cell? ⟨H, 15, none⟩ = some (.int .i64 h.cs) := HBH3.out.cell 15
              have g3_16 : w3.cell? ⟨H, 16, none⟩ = some (.int .i64 h.cn) := HBH3.out.cell 16
              go_wp2_with fail
              refine (HO3 _).out.mono ?_
              rintro e w9 ⟨rfl, hb9⟩
              have HW9 : Hid (Below w.heap.size w w9) := Lib.hid (HW3.out.trans (hb9.mono HW3.out.size))
              clear hb9
              go_wp2
              go_ret
              exact ⟨o3, rfl, (fun e3 => by rw [HNS.out]; exact ⟨by omega, by omega, by simp, by simp, by first | exact e3 | exact fun _ => e3⟩), HW9.out⟩

/-- A header with its type told. -/
def Hd.prom (h : Hd) : Hd := { h with ty := if h.ty = 0 then (if slB h.name = true then 53 else 48) else h.ty }
end Go.Proofs.YtepeehjajhehfaaGreatDoor
