/- The chooser of package spec: octal, number. -/
import Derived.Test.YtepeehjajhehfaaGreatDoorChs
import Derived.Test.YtepeehjajhehfaaGreatDoorMC
import Derived.Deep.CutBlock
namespace Go.Proofs.YtepeehjajhehfaaGreatDoor
open Go.RowKit Go.PlainAid
set_option linter.unusedVariables false

theorem boolRow2 (w : World) (x y : Bool) (T : TypeId) : BoolRow (w.alloc (.cells #[.bool x, .bool y] T)) (w.alloc (.cells #[.bool x, .bool y] T)).heap.size (some ⟨w.heap.size, 0, none⟩) 2 (fun i => if i = 0 then x else y) := by
  have hb := Blk.new w T [.bool x, .bool y]
  intro i hi
  refine ⟨w.heap.size, 0, rfl, hb.lt, fun j hj => ?_⟩
  have e := hb.cell (0 + j)
  rw [e]
  match j, hj with
  | 0, _ => rfl
  | 1, _ => rfl
theorem boolRow1 (w : World) (x : Bool) (T : TypeId) : BoolRow (w.alloc (.cells #[.bool x] T)) (w.alloc (.cells #[.bool x] T)).heap.size (some ⟨w.heap.size, 0, none⟩) 1 (fun _ => x) := by
  have hb := Blk.new w T [.bool x]
  intro i hi
  refine ⟨w.heap.size, 0, rfl, hb.lt, fun j hj => ?_⟩
  have e := hb.cell (0 + j)
  rw [e]
  match j, hj with
  | 0, _ => rfl
/-- A field of len bytes is written at off into block g. -/
def FieldP (Cb k d g off len : Nat) (cur : List UInt8) (w : World) (e : Ending) (w' : World) : Prop :=
  e = .returned (.tuple #[]) ∧ ∃ (k' : Nat) (f : List UInt8), k' ≤ k + d ∧ f.length = len ∧ Ch Cb k' w' ∧ Blk w' g 5 (bys (splice cur off f)) ∧ Far [Cb, g] w w'
theorem FieldP.mk_ {Cb k d g off len k' : Nat} {cur f : List UInt8} {w w' : World} (h1 : k' ≤ k + d) (h2 : f.length = len) (h3 : Ch Cb k' w') (h4 : Blk w' g 5 (bys (splice cur off f))) (h5 : Far [Cb, g] w w') : FieldP Cb k d g off len cur w (.returned (.tuple #[])) w' := ⟨rfl, k', f, h1, h2, h3, h4, h5⟩

set_option maxRecDepth 20000 in
set_option maxHeartbeats 1600000 in
theorem chOct (Cb k g off len cap : Nat) (n : Int) (cur : List UInt8) (w : World) (h : Ch Cb k w) (hg : Blk w g 5 (bys cur)) (hCg : Cb < g) (hl : 3 ≤ len) (hl2 : len ≤ 22) (hlc : len ≤ cap) (hfit : off + len ≤ cur.length) (h1 : 0 ≤ n) (h2 : n ≤ 9223372036854775807) (hk : k ≤ 1000) :
    Calls Tryz.prog 59 #[.pointer (some ⟨Cb, 0, none⟩), .slice (some ⟨g, off, none⟩) len cap, .int .i64 n] w (FieldP Cb k 3 g off len cur w) := by
  have HG := Lib.hid hg
  have HCh := Lib.hid h
  obtain ⟨j, hj⟩ : ∃ j, len = j + 2 := ⟨len - 2, by omega⟩
  have l3 : (2 : Int) < (len : Int) := by omega
  have u1 : IntKind.i64.wrap ((len : Int) - 1) = (len : Int) - 1 := IntWalk.i64_in _ (by omega)
  have HF := fun w => Lib.hid (specFitsO j ((len : Int) - 1) n w (by omega) (by omega) (by omega) h2)
  obtain ⟨b, hb⟩ : ∃ b, fitsO j n = b := ⟨_, rfl⟩
  unfold FitOP at HF
  rw [hb] at HF
  clear hb hg h hj
  go_enter Tryz.func59, Tryz.ntmps59
  go_upto_if 16 with (go_at_call 46; refine (HF _).out.mono ?_; rintro e w' ⟨rfl, rfl⟩)
  go_cut [6] (fun t wx => ∃ T k' : Nat, (T = 1 ∨ T = 2) ∧ t = .int .i64 T ∧ k' ≤ k + 1 ∧ Hid (Ch Cb k' wx) ∧ Hid (Far [Cb] w wx))
  case first =>
    cases b with
    | true =>
      go_wp2_with fail
      refine (chOf Cb k 2 _ HCh.out (by omega) (by omega) (by omega)).mono ?_
      rintro e w1 ⟨v, k', hv, rfl, hk', hch, hf⟩
      have u2 : IntKind.i64.wrap (1 + (v : Int)) = 1 + (v : Int) := IntWalk.i64_in _ (by omega)
      have HC1 := Lib.hid hch
      have HF1 := Lib.hid hf
      clear hch hf
      go_wp2_with fail
      go_meet
      case rel => exact ⟨1 + v, k', by omega, by simp, hk', HC1, HF1⟩
    | false =>
      go_wp2_with fail
      go_meet
      case rel => exact ⟨1, k, by omega, rfl, by omega, HCh, Lib.hid (Far.refl _ _)⟩
  case rest =>
    obtain ⟨T, k', hT, rfl, hk', HC1, HF1⟩ := hcut
    have T1 : 1 ≤ T := by omega
    have T2 : T ≤ 2 := by omega
    obtain ⟨D, hD⟩ : ∃ D, len = D + T := ⟨len - T, by omega⟩
    have hz : (len : Int) = (D : Int) + (T : Int) := by omega
    have HZ := Lib.hid hz
    have HD := Lib.hid hD
    have D1 : 1 ≤ D := by omega
    have D2 : D + T ≤ 1000 := by omega
    clear hz HF hD hl hl2
    go_wp2_with fail
    refine (chOf Cb k' 2 _ HC1.out (by omega) (by omega) (by omega)).mono ?_
    rintro e w1 ⟨v1, k1, hv1, rfl, hk1, hch1, hf1⟩
    have HC2 := Lib.hid hch1
    have HF2 := Lib.hid (HF1.out.trans hf1)
    clear hch1 hf1
    go_wp2_with fail
    refine (chOf Cb k1 2 _ HC2.out (by omega) (by omega) (by omega)).mono ?_
    rintro e w2 ⟨v2, k2, hv2, rfl, hk2, hch2, hf2⟩
    have HC3 := Lib.hid hch2
    have HF3 := Lib.hid (HF2.out.trans hf2)
    have HG3 : Hid (Blk w2 g 5 (bys cur)) := Lib.hid (HG.out.of_far HF3.out (by simp; omega))
    clear hch2 hf2
    go_wp2_with fail
    refine (specPutOctal D T (len : Int) (T : Int) n _ 2 2 _ _ HZ.out rfl D1 D2 h1 h2 (boolRow2 _ _ _ _) (by omega) (by omega)).mono ?_
    rintro e w3 ⟨rfl, ⟨t, ht, hte, hblk⟩, hb3⟩
    have HL : Hid ((od D n ++ t).length = D + T) := Lib.hid (by rw [List.length_append, od_len, ht])
    have HB3 : Hid (Below w2.heap.size w2 w3) := Lib.hid (((Below.refl _ _).alloc (Nat.le_refl _) _).trans (hb3.mono (by simp)))
    have HP3 := Lib.hid hblk
    have HG4 : Hid (Blk w3 g 5 (bys cur)) := Lib.hid (HG3.out.below HB3.out HG3.out.lt)
    have HRB : Hid (RB w3 (w2.heap.size + 1 + 1) (some ⟨w2.heap.size + 1, 0, none⟩) (od D n ++ t)) := Lib.hid (by have h := RB.of_blk HP3.out; simpa using h)
    rw [← HD.out] at HL ⊢
    clear hte hblk hb3
    have hfit' : Hid (off + len ≤ cur.length) := Lib.hid hfit
    go_wp2_with (refine wpList_copy_bytes (o := ⟨some 34, _, _, _, _, _⟩) _ rfl (.tmp 21) (.tmp 33) 35 35 rfl 5 Tryz.underlying35 u8size g off len cap len len _ rfl rfl cur (od D n ++ t) _ _ HG4.out HL.out HRB.out hfit'.out ?_)
    intro w4 b4 g4 z4
    have HT : Hid ((od D n ++ t).take len = od D n ++ t) := Lib.hid (List.take_of_length_le (by rw [HL.out]; exact Nat.le_refl _))
    have HB4 : Hid (Blk w4 g 5 (bys (splice cur off (od D n ++ t)))) := Lib.hid (by have h := b4.out; rwa [HT.out] at h)
    have HC4 : Hid (Ch Cb k2 w4) := Lib.hid ((HC3.out.below HB3.out HC3.out.lt).far (Far.of_grown (S := [g]) g4 (fun k hk => by cases hk; simp)) (fun j hj => by simp at hj; omega))
    have HF4 : Hid (Far [Cb, g] w w4) := Lib.hid (((Far.mono HF3.out (fun j _ hj => by simp at hj; simp [hj])).trans (Far.of_below HB3.out)).trans (Far.of_grown (S := [Cb, g]) g4 (fun k hk => by cases hk; simp)))
    clear b4 g4 z4
    go_wp2
    refine bodyPost_end (results_none rfl _ _ _) rfl ?_
    exact FieldP.mk_ (by omega) HL.out HC4.out HB4.out HF4.out
set_option maxRecDepth 20000 in
set_option maxHeartbeats 1600000 in
theorem chNum (Cb k g off len cap : Nat) (n : Int) (b : Bool) (cur : List UInt8) (w : World) (h : Ch Cb k w) (hg : Blk w g 5 (bys cur)) (hCg : Cb < g) (hl : 3 ≤ len) (hl2 : len ≤ 22) (hlc : len ≤ cap) (hfit : off + len ≤ cur.length) (h1 : -9223372036854775808 ≤ n) (h2 : n ≤ 9223372036854775807) (hn : b = false → 0 ≤ n) (hk : k ≤ 900) :
    Calls Tryz.prog 47 #[.pointer (some ⟨Cb, 0, none⟩), .slice (some ⟨g, off, none⟩) len cap, .int .i64 n, .bool b] w (FieldP Cb k 4 g off len cur w) := by
  have HG := Lib.hid hg
  have HCh := Lib.hid h
  have hfit' : Hid (off + len ≤ cur.length) := Lib.hid hfit
  obtain ⟨j, hj⟩ : ∃ j, len = j + 1 := ⟨len - 1, by omega⟩
  have HJ2 := Lib.hid hj
  have HJ : Hid ((len : Int) = (j : Int) + 1) := Lib.hid (by omega)
  have j21 : j ≤ 21 := by omega
  have HF0 : Hid (Far [Cb, g] w w) := Lib.hid (Far.refl _ _)
  clear hj h hg hfit
  cases b with
  | false =>
    have hn0 := hn rfl
    clear hn
    go_enter Tryz.func47, Tryz.ntmps47
    go_wp2_with fail
    refine (chOct Cb k g off len cap n cur w HCh.out HG.out hCg hl hl2 hlc hfit'.out hn0 h2 (by omega)).mono ?_
    rintro e w4 ⟨rfl, k4, f4, hk4, hf4, hch4, hb4, hfar4⟩
    have HC4 := Lib.hid hch4
    have HB4 := Lib.hid hb4
    have HF4 := Lib.hid (HF0.out.trans hfar4)
    clear hch4 hb4 hfar4
    go_wp2
    refine bodyPost_end (results_none rfl _ _ _) rfl ?_
    exact FieldP.mk_ (by omega) hf4 HC4.out HB4.out HF4.out
  | true =>
    have HF := fun w => Lib.hid (specFitsO j (len : Int) n w HJ.out j21 h1 h2)
    obtain ⟨b, hb⟩ : ∃ b, fitsO j n = b := ⟨_, rfl⟩
    unfold FitOP at HF
    rw [hb] at HF
    have HB := Lib.hid hb
    clear hb hn
    cases b with
    | false =>
      go_enter Tryz.func47, Tryz.ntmps47
      go_wp2_with (go_at_call 46; refine (HF _).out.mono ?_; rintro e w' ⟨rfl, rfl⟩)
      refine (specPutBytes j (len : Int) n _ HJ.out (by omega) h1 h2).mono ?_
      rintro e w3 ⟨rfl, hblk, hb3⟩
      have HP3 := Lib.hid hblk
      have HB3 : Hid (Below w.heap.size w w3) := Lib.hid hb3
      have HG4 : Hid (Blk w3 g 5 (bys cur)) := Lib.hid (HG.out.below HB3.out HG.out.lt)
      have HRB := Lib.hid (RB.of_blk HP3.out)
      have HL : Hid ((fieldB j n).length = len) := Lib.hid (by unfold fieldB; rw [List.length_cons, be_len, HJ2.out])
      rw [← HJ2.out]
      clear hblk hb3
      go_wp2_with (refine wpList_copy_bytes (o := ⟨some 26, _, _, _, _, _⟩) _ rfl (.tmp 21) (.tmp 25) 35 35 rfl 5 Tryz.underlying35 u8size g off len cap len len _ rfl rfl cur (fieldB j n) _ _ HG4.out HL.out HRB.out hfit'.out ?_)
      intro w4 b4 g4 z4
      have HT : Hid ((fieldB j n).take len = fieldB j n) := Lib.hid (List.take_of_length_le (by rw [HL.out]; exact Nat.le_refl _))
      have HB4 : Hid (Blk w4 g 5 (bys (splice cur off (fieldB j n)))) := Lib.hid (by have h := b4.out; rwa [HT.out] at h)
      have HC4 : Hid (Ch Cb k w4) := Lib.hid ((HCh.out.below HB3.out HCh.out.lt).far (Far.of_grown (S := [g]) g4 (fun k hk => by cases hk; simp)) (fun j hj => by simp at hj; omega))
      have HF4 : Hid (Far [Cb, g] w w4) := Lib.hid ((HF0.out.trans (Far.of_below HB3.out)).trans (Far.of_grown (S := [Cb, g]) g4 (fun k hk => by cases hk; simp)))
      clear b4 g4 z4
      go_wp2
      refine bodyPost_end (results_none rfl _ _ _) rfl ?_
      exact FieldP.mk_ (by omega) HL.out HC4.out HB4.out HF4.out
    | true =>
      have hn0 := (fitsO_pos HB.out).1
      go_enter Tryz.func47, Tryz.ntmps47
      go_wp2_with (go_at_call 46; refine (HF _).out.mono ?_; rintro e w' ⟨rfl, rfl⟩)
      refine (chOf Cb k 3 _ HCh.out (by omega) (by omega) (by omega)).mono ?_
      rintro e w2 ⟨v, k2, hv, rfl, hk2, hch, hf⟩
      have HC2 := Lib.hid hch
      have HF2 : Hid (Far [Cb, g] w w2) := Lib.hid (Far.mono hf (fun j _ hj => by simp at hj; simp [hj]))
      have HG2 : Hid (Blk w2 g 5 (bys cur)) := Lib.hid (HG.out.of_far hf (by simp; omega))
      clear hch hf
      by_cases hv0 : v = 0
      · subst hv0
        go_wp2_with fail
        refine (specPutBytes j (len : Int) n _ HJ.out (by omega) h1 h2).mono ?_
        rintro e w3 ⟨rfl, hblk, hb3⟩
        have HP3 := Lib.hid hblk
        have HB3 : Hid (Below w2.heap.size w2 w3) := Lib.hid hb3
        have HG4 : Hid (Blk w3 g 5 (bys cur)) := Lib.hid (HG2.out.below HB3.out HG2.out.lt)
        have HRB := Lib.hid (RB.of_blk HP3.out)
        have HL : Hid ((fieldB j n).length = len) := Lib.hid (by unfold fieldB; rw [List.length_cons, be_len, HJ2.out])
        rw [← HJ2.out]
        clear hblk hb3
        go_wp2_with (refine wpList_copy_bytes (o := ⟨some 26, _, _, _, _, _⟩) _ rfl (.tmp 21) (.tmp 25) 35 35 rfl 5 Tryz.underlying35 u8size g off len cap len len _ rfl rfl cur (fieldB j n) _ _ HG4.out HL.out HRB.out hfit'.out ?_)
        intro w4 b4 g4 z4
        have HT : Hid ((fieldB j n).take len = fieldB j n) := Lib.hid (List.take_of_length_le (by rw [HL.out]; exact Nat.le_refl _))
        have HB4 : Hid (Blk w4 g 5 (bys (splice cur off (fieldB j n)))) := Lib.hid (by have h := b4.out; rwa [HT.out] at h)
        have HC4 : Hid (Ch Cb k2 w4) := Lib.hid ((HC2.out.below HB3.out HC2.out.lt).far (Far.of_grown (S := [g]) g4 (fun k hk => by cases hk; simp)) (fun j hj => by simp at hj; omega))
        have HF4 : Hid (Far [Cb, g] w w4) := Lib.hid ((HF2.out.trans (Far.of_below HB3.out)).trans (Far.of_grown (S := [Cb, g]) g4 (fun k hk => by cases hk; simp)))
        clear b4 g4 z4
        go_wp2
        refine bodyPost_end (results_none rfl _ _ _) rfl ?_
        exact FieldP.mk_ (by omega) HL.out HC4.out HB4.out HF4.out
      · have hv1 : ((v : Int) == 0) = false := by rw [beq_eq_false_iff_ne]; omega
        go_wp2_with fail
        refine (chOct Cb k2 g off len cap n cur w2 HC2.out HG2.out hCg hl hl2 hlc hfit'.out hn0 h2 (by omega)).mono ?_
        rintro e w4 ⟨rfl, k4, f4, hk4, hf4, hch4, hb4, hfar4⟩
        have HC4 := Lib.hid hch4
        have HB4 := Lib.hid hb4
        have HF4 := Lib.hid (HF2.out.trans hfar4)
        clear hch4 hb4 hfar4
        go_wp2
        refine bodyPost_end (results_none rfl _ _ _) rfl ?_
        exact FieldP.mk_ (by omega) hf4 HC4.out HB4.out HF4.out
end Go.Proofs.YtepeehjajhehfaaGreatDoor
