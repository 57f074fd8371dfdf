/- getFormat of a block; ZZFormat; impl.FormatOf: their walks. -/
import Derived.Test.YtepeehjajhehfaaGreatDoorMB
import Derived.Test.YtepeehjajhehfaaGreatDoorSumsLaw
import Derived.Test.YtepeehjajhehfaaGreatDoorBlkP
namespace Go.Proofs.YtepeehjajhehfaaGreatDoor
open Go.RowKit Go.PlainAid
set_option linter.unusedVariables false

theorem rb_at {w : World} {g : Nat} {t : TypeId} {bs : List UInt8} (h : Blk w g t (bys bs)) (off n : Nat) (hf : off + n ≤ bs.length) : RB w (g + 1) (some ⟨g, off, none⟩) ((bs.drop off).take n) := fun hp => ⟨g, off, rfl, by omega, fun i hi => by
  rw [List.length_take, List.length_drop] at hi
  rw [h.cell, bys_get bs (off + i) (by omega)]
  simp [byt, List.getD, List.getElem?_drop, show i < n by omega]⟩
theorem at_len {bs : List UInt8} {off n : Nat} (hf : off + n ≤ bs.length) : ((bs.drop off).take n).length = n := by rw [List.length_take, List.length_drop]; omega
set_option maxRecDepth 20000 in
set_option maxHeartbeats 400000 in
theorem at_toV7 (p : Option Addr) (w : World) : Calls Tryz.prog 63 #[.pointer p] w fun e w' => e = .returned (.pointer p) ∧ w = w' := by
  go_enter Tryz.func63, Tryz.ntmps63
  go_wp2
  go_ret
  exact ⟨rfl, rfl⟩
set_option maxRecDepth 20000 in
set_option maxHeartbeats 400000 in
theorem at_toUSTAR (p : Option Addr) (w : World) : Calls Tryz.prog 66 #[.pointer p] w fun e w' => e = .returned (.pointer p) ∧ w = w' := by
  go_enter Tryz.func66, Tryz.ntmps66
  go_wp2
  go_ret
  exact ⟨rfl, rfl⟩
set_option maxRecDepth 20000 in
set_option maxHeartbeats 400000 in
theorem at_toSTAR (p : Option Addr) (w : World) : Calls Tryz.prog 69 #[.pointer p] w fun e w' => e = .returned (.pointer p) ∧ w = w' := by
  go_enter Tryz.func69, Tryz.ntmps69
  go_wp2
  go_ret
  exact ⟨rfl, rfl⟩
set_option maxRecDepth 20000 in
set_option maxHeartbeats 400000 in
theorem at_chksum (g : Nat) (w : World) : Calls Tryz.prog 64 #[.pointer (some ⟨g, 0, none⟩)] w fun e w' => e = .returned (.slice (some ⟨g, 148, none⟩) 8 364) ∧ w = w' := by
  go_enter Tryz.func64, Tryz.ntmps64
  go_wp2
  go_ret
  exact ⟨rfl, rfl⟩
set_option maxRecDepth 20000 in
set_option maxHeartbeats 400000 in
theorem at_magic (g : Nat) (w : World) : Calls Tryz.prog 67 #[.pointer (some ⟨g, 0, none⟩)] w fun e w' => e = .returned (.slice (some ⟨g, 257, none⟩) 6 255) ∧ w = w' := by
  go_enter Tryz.func67, Tryz.ntmps67
  go_wp2
  go_ret
  exact ⟨rfl, rfl⟩
set_option maxRecDepth 20000 in
set_option maxHeartbeats 400000 in
theorem at_version (g : Nat) (w : World) : Calls Tryz.prog 68 #[.pointer (some ⟨g, 0, none⟩)] w fun e w' => e = .returned (.slice (some ⟨g, 263, none⟩) 2 249) ∧ w = w' := by
  go_enter Tryz.func68, Tryz.ntmps68
  go_wp2
  go_ret
  exact ⟨rfl, rfl⟩
set_option maxRecDepth 20000 in
set_option maxHeartbeats 400000 in
theorem at_trailer (g : Nat) (w : World) : Calls Tryz.prog 70 #[.pointer (some ⟨g, 0, none⟩)] w fun e w' => e = .returned (.slice (some ⟨g, 508, none⟩) 4 4) ∧ w = w' := by
  go_enter Tryz.func70, Tryz.ntmps70
  go_wp2
  go_ret
  exact ⟨rfl, rfl⟩
/-- The check sum's field. -/
def ckf (P : List UInt8) : List UInt8 := (P.drop 148).take 8
/-- It tells the sum of the block. -/
def CkYes (P : List UInt8) : Prop := ∀ x ok, OctR (ckf P) x ok → ok = true ∧ x = SU P
def CkNo (P : List UInt8) : Prop := ∀ x ok, OctR (ckf P) x ok → ok = true ∧ x ≠ SU P ∧ x ≠ SS P
/-- The three sentinels that parsing may answer. -/
structure Errs3 (w : World) : Prop where
  hdr : ∃ a, Err w.heap.size w 1 a
  syn : ∃ a, Err w.heap.size w 4 a
  rng : ∃ a, Err w.heap.size w 5 a
theorem Errs3.below {w w' : World} (h : Errs3 w) (hb : Below w.heap.size w w') : Errs3 w' := by
  obtain ⟨⟨a, ha⟩, ⟨b, hb'⟩, ⟨c, hc⟩⟩ := h
  exact ⟨⟨a, ha.more hb⟩, ⟨b, hb'.more hb⟩, ⟨c, hc.more hb⟩⟩
theorem lt_err {w : World} {g : Nat} {a : Addr} (h : Err w.heap.size w g a) : g < w.heap.size := h.lg
set_option maxRecDepth 20000 in
set_option maxHeartbeats 1200000 in
theorem getFormat_no (g : Nat) (P : List UInt8) (w : World) (hl : P.length = 512) (hb : Blk w g 118 (bys P)) (hck : CkNo P) (hE : Errs3 w) :
    Calls Tryz.prog 50 #[.pointer (some ⟨g, 0, none⟩)] w fun e w' => e = .returned (.int .i64 0) ∧ Below w.heap.size w w' := by
  obtain ⟨⟨a, ha⟩, ⟨a1, ha1⟩, ⟨a2, ha2⟩⟩ := hE
  have HB1 : Hid (Below w.heap.size w (w.alloc (.cells #[.nilIface] 120))) := Lib.hid ((Below.refl _ w).alloc (Nat.le_refl _) _)
  have HCALL : Hid (Calls Tryz.prog 62 #[.pointer (some ⟨w.heap.size, 0, none⟩), .slice (some ⟨g, 148, none⟩) 8 364] (w.alloc (.cells #[.nilIface] 120)) (OctP (ckf P) (w.alloc (.cells #[.nilIface] 120)) w.heap.size w.heap.size a)) := Lib.hid
    (parseOctal_any (some ⟨g, 148, none⟩) 8 364 w.heap.size w.heap.size (ckf P) _ (at_len (by omega)) ((rb_at (hb.alloc _) 148 8 (by omega)).more (by have := (hb.alloc (.cells #[.nilIface] 120)).lt; omega)) (by omega) (fun h => by cases h) (by omega) (parser_new w) (Nat.le_refl _) HB1.out.size (by have := lt_err ha; omega) (ha.more HB1.out) (ha1.more HB1.out) (ha2.more HB1.out))
  have HBL := Lib.hid hb
  have HL := Lib.hid hl
  have hneq := fun w => run_eql_nil_nil_at (P := Tryz.prog) (w := w) 101 isErr
  obtain ⟨N, hN⟩ : ∃ N : Nat, N = 512 := ⟨512, rfl⟩
  obtain ⟨s1, hs1⟩ : ∃ s, sumU P N = s := ⟨_, rfl⟩
  obtain ⟨s2, hs2⟩ : ∃ s, sumS P N = s := ⟨_, rfl⟩
  have HU : Hid (SU P = s1) := Lib.hid (by rw [← hs1, hN]; rfl)
  have HUS : Hid (SS P = s2) := Lib.hid (by rw [← hs2, hN]; rfl)
  have HCOMP : Hid (∀ w2, Blk w2 g 118 (bys P) → Calls Tryz.prog 65 #[.pointer (some ⟨g, 0, none⟩)] w2 (Quietly (.tuple #[.int .i64 s1, .int .i64 s2]) w2)) := Lib.hid (by
    intro w2 h2
    have h := compute g N hN P w2 (fun i hi => by rw [h2.cell, bys_get P i (by omega)])
    rw [hs1, hs2] at h
    exact h)
  clear hs1 hs2 hN
  have HCK := Lib.hid hck
  clear hck
  clear hb hl ha ha1 ha2
  go_enter Tryz.func50, Tryz.ntmps50
  go_wp2_with (first
    | (go_at_call 63; refine (at_toV7 _ _).mono ?_; rintro e w' ⟨rfl, rfl⟩)
    | (go_at_call 64; refine (at_chksum g _).mono ?_; rintro e w' ⟨rfl, rfl⟩)
    | (go_at_call 62; refine HCALL.out.mono ?_; rintro e w2 ⟨x, ok, rfl, hR, hPA, hb2⟩; obtain ⟨rfl, HXH⟩ := HCK.out x ok hR; have HX := Lib.hid HXH; have HB2 := Lib.hid (HB1.out.trans hb2); have HB3 := Lib.hid (HBL.out.below HB2.out HBL.out.lt); have HPP := Lib.hid (hPA.1 rfl); clear hR hPA hb2 HXH)
    | (go_at_call 65; refine (HCOMP.out _ HB3.out).mono ?_; rintro e w3 ⟨rfl, q, rfl⟩; have kp : (w2.drewN q).cell? ⟨w.heap.size, 0, none⟩ = some .nilIface := HPP.out.cell 0; have n1 : (x == s1) = false := beq_eq_false_iff_ne.2 (by rw [← HU.out]; exact HX.out.1); have n2 : (x == s2) = false := beq_eq_false_iff_ne.2 (by rw [← HUS.out]; exact HX.out.2); have n3 : (x != s1) = true := (by unfold bne; rw [n1]; rfl); have n4 : (x != s2) = true := (by unfold bne; rw [n2]; rfl)))
  go_ret
  exact ⟨rfl, below_drewN HB2.out q⟩
theorem mg_bytes {b : Bool} {P : List UInt8} (h : Mg b P) (i n : Nat) (hin : i + n ≤ 8) (hl : P.length = 512) {X : List UInt8} (hX : ((magic b).drop i).take n = X) : (P.drop (257 + i)).take n = X := by
  rw [← hX]
  apply List.ext_getElem?
  intro j
  rw [List.getElem?_take, List.getElem?_take]
  by_cases hj : j < n
  · rw [if_pos hj, if_pos hj, List.getElem?_drop, List.getElem?_drop, h (257 + i + j) (by omega) (by omega), show 257 + i + j - 257 = i + j by omega]
  · rw [if_neg hj, if_neg hj]
theorem zt_bytes {P : List UInt8} (h : Zt P) (hl : P.length = 512) : (P.drop 508).take 4 = [0, 0, 0, 0] := by
  apply List.ext_getElem?
  intro j
  rw [List.getElem?_take]
  by_cases hj : j < 4
  · rw [if_pos hj, List.getElem?_drop, h (508 + j) (by omega) (by omega)]
    match j, hj with
    | 0, _ => rfl
    | 1, _ => rfl
    | 2, _ => rfl
    | 3, _ => rfl
  · rw [if_neg hj, List.getElem?_eq_none (by simp; omega)]
set_option maxRecDepth 20000 in
set_option maxHeartbeats 1200000 in
theorem getFormat_ustar (g : Nat) (P : List UInt8) (w : World) (hl : P.length = 512) (hb : Blk w g 118 (bys P)) (hck : CkYes P) (hmg : Mg false P) (hzt : Zt P) (hE : Errs3 w) :
    Calls Tryz.prog 50 #[.pointer (some ⟨g, 0, none⟩)] w fun e w' => e = .returned (.int .i64 6) ∧ Below w.heap.size w w' := by
  obtain ⟨⟨a, ha⟩, ⟨a1, ha1⟩, ⟨a2, ha2⟩⟩ := hE
  have HB1 : Hid (Below w.heap.size w (w.alloc (.cells #[.nilIface] 120))) := Lib.hid ((Below.refl _ w).alloc (Nat.le_refl _) _)
  have HCALL : Hid (Calls Tryz.prog 62 #[.pointer (some ⟨w.heap.size, 0, none⟩), .slice (some ⟨g, 148, none⟩) 8 364] (w.alloc (.cells #[.nilIface] 120)) (OctP (ckf P) (w.alloc (.cells #[.nilIface] 120)) w.heap.size w.heap.size a)) := Lib.hid
    (parseOctal_any (some ⟨g, 148, none⟩) 8 364 w.heap.size w.heap.size (ckf P) _ (at_len (by omega)) ((rb_at (hb.alloc _) 148 8 (by omega)).more (by have := (hb.alloc (.cells #[.nilIface] 120)).lt; omega)) (by omega) (fun h => by cases h) (by omega) (parser_new w) (Nat.le_refl _) HB1.out.size (by have := lt_err ha; omega) (ha.more HB1.out) (ha1.more HB1.out) (ha2.more HB1.out))
  have HBL := Lib.hid hb
  have HL := Lib.hid hl
  have hneq := fun w => run_eql_nil_nil_at (P := Tryz.prog) (w := w) 101 isErr
  obtain ⟨N, hN⟩ : ∃ N : Nat, N = 512 := ⟨512, rfl⟩
  obtain ⟨s1, hs1⟩ : ∃ s, sumU P N = s := ⟨_, rfl⟩
  obtain ⟨s2, hs2⟩ : ∃ s, sumS P N = s := ⟨_, rfl⟩
  have HU : Hid (SU P = s1) := Lib.hid (by rw [← hs1, hN]; rfl)
  have HUS : Hid (SS P = s2) := Lib.hid (by rw [← hs2, hN]; rfl)
  have HCOMP : Hid (∀ w2, Blk w2 g 118 (bys P) → Calls Tryz.prog 65 #[.pointer (some ⟨g, 0, none⟩)] w2 (Quietly (.tuple #[.int .i64 s1, .int .i64 s2]) w2)) := Lib.hid (by
    intro w2 h2
    have h := compute g N hN P w2 (fun i hi => by rw [h2.cell, bys_get P i (by omega)])
    rw [hs1, hs2] at h
    exact h)
  clear hs1 hs2 hN
  have HCK := Lib.hid hck
  have HM : Hid ((P.drop 257).take 6 = [117, 115, 116, 97, 114, 0]) := Lib.hid (mg_bytes hmg 0 6 (by omega) hl rfl)
  have HV : Hid ((P.drop 263).take 2 = [48, 48]) := Lib.hid (mg_bytes hmg 6 2 (by omega) hl rfl)
  have HT : Hid ((P.drop 508).take 4 = [0, 0, 0, 0]) := Lib.hid (zt_bytes hzt hl)
  clear hck hmg hzt
  clear hb hl ha ha1 ha2
  go_enter Tryz.func50, Tryz.ntmps50
  go_wp2_with (first
    | (go_at_call 63; refine (at_toV7 _ _).mono ?_; rintro e w' ⟨rfl, rfl⟩)
    | (go_at_call 64; refine (at_chksum g _).mono ?_; rintro e w' ⟨rfl, rfl⟩)
    | (go_at_call 62; refine HCALL.out.mono ?_; rintro e w2 ⟨x, ok, rfl, hR, hPA, hb2⟩; obtain ⟨rfl, HXH⟩ := HCK.out x ok hR; have HX := Lib.hid HXH; have HB2 := Lib.hid (HB1.out.trans hb2); have HB3 := Lib.hid (HBL.out.below HB2.out HBL.out.lt); have HPP := Lib.hid (hPA.1 rfl); clear hR hPA hb2 HXH)
    | (go_at_call 65; refine (HCOMP.out _ HB3.out).mono ?_; rintro e w3 ⟨rfl, q, rfl⟩; have kp : (w2.drewN q).cell? ⟨w.heap.size, 0, none⟩ = some .nilIface := HPP.out.cell 0; have n1 : (x == s1) = true := beq_iff_eq.2 (by rw [← HU.out]; exact HX.out); have n1b : x = s1 := beq_iff_eq.1 n1; have n3 : (x != x) = false := (by simp); subst n1b))
  refine (at_toUSTAR _ _).mono ?_
  rintro e w' ⟨rfl, rfl⟩
  go_wp2_with fail
  refine (at_magic g _).mono ?_
  rintro e w' ⟨rfl, rfl⟩
  go_wp2_with (refine wpList_conv_bytes (o := ⟨some 35, _, _, _, _, _⟩) _ rfl (.tmp 34) 35 9 5 rfl Tryz.underlying35 Tryz.underlying5 Tryz.underlying9 (some ⟨g, 257, none⟩) 6 255 (g + 1) [117, 115, 116, 97, 114, 0] rfl rfl (by have h := rb_at (HB3.out.drewN q) 257 6 (by rw [HL.out]; omega); rw [HM.out] at h; exact h) ?_; rw [show mkS [117, 115, 116, 97, 114, 0] = ⟨#[117, 115, 116, 97, 114, 0]⟩ from rfl])
  refine (at_toUSTAR _ _).mono ?_
  rintro e w' ⟨rfl, rfl⟩
  go_wp2_with fail
  refine (at_version g _).mono ?_
  rintro e w' ⟨rfl, rfl⟩
  go_wp2_with (refine wpList_conv_bytes (o := ⟨some 39, _, _, _, _, _⟩) _ rfl (.tmp 38) 35 9 5 rfl Tryz.underlying35 Tryz.underlying5 Tryz.underlying9 (some ⟨g, 263, none⟩) 2 249 (g + 1) [48, 48] rfl rfl (by have h := rb_at (HB3.out.drewN q) 263 2 (by rw [HL.out]; omega); rw [HV.out] at h; exact h) ?_; rw [show mkS [48, 48] = ⟨#[48, 48]⟩ from rfl])
  refine (at_toSTAR _ _).mono ?_
  rintro e w' ⟨rfl, rfl⟩
  go_wp2_with fail
  refine (at_trailer g _).mono ?_
  rintro e w' ⟨rfl, rfl⟩
  go_wp2_with (refine wpList_conv_bytes (o := ⟨some 43, _, _, _, _, _⟩) _ rfl (.tmp 42) 35 9 5 rfl Tryz.underlying35 Tryz.underlying5 Tryz.underlying9 (some ⟨g, 508, none⟩) 4 4 (g + 1) [0, 0, 0, 0] rfl rfl (by have h := rb_at (HB3.out.drewN q) 508 4 (by rw [HL.out]; omega); rw [HT.out] at h; exact h) ?_; rw [show mkS [0, 0, 0, 0] = ⟨#[0, 0, 0, 0]⟩ from rfl])
  go_ret
  exact ⟨rfl, below_drewN HB2.out q⟩
set_option maxRecDepth 20000 in
set_option maxHeartbeats 1200000 in
theorem getFormat_gnu (g : Nat) (P : List UInt8) (w : World) (hl : P.length = 512) (hb : Blk w g 118 (bys P)) (hck : CkYes P) (hmg : Mg true P) (hzt : Zt P) (hE : Errs3 w) :
    Calls Tryz.prog 50 #[.pointer (some ⟨g, 0, none⟩)] w fun e w' => e = .returned (.int .i64 8) ∧ Below w.heap.size w w' := by
  obtain ⟨⟨a, ha⟩, ⟨a1, ha1⟩, ⟨a2, ha2⟩⟩ := hE
  have HB1 : Hid (Below w.heap.size w (w.alloc (.cells #[.nilIface] 120))) := Lib.hid ((Below.refl _ w).alloc (Nat.le_refl _) _)
  have HCALL : Hid (Calls Tryz.prog 62 #[.pointer (some ⟨w.heap.size, 0, none⟩), .slice (some ⟨g, 148, none⟩) 8 364] (w.alloc (.cells #[.nilIface] 120)) (OctP (ckf P) (w.alloc (.cells #[.nilIface] 120)) w.heap.size w.heap.size a)) := Lib.hid
    (parseOctal_any (some ⟨g, 148, none⟩) 8 364 w.heap.size w.heap.size (ckf P) _ (at_len (by omega)) ((rb_at (hb.alloc _) 148 8 (by omega)).more (by have := (hb.alloc (.cells #[.nilIface] 120)).lt; omega)) (by omega) (fun h => by cases h) (by omega) (parser_new w) (Nat.le_refl _) HB1.out.size (by have := lt_err ha; omega) (ha.more HB1.out) (ha1.more HB1.out) (ha2.more HB1.out))
  have HBL := Lib.hid hb
  have HL := Lib.hid hl
  have hneq := fun w => run_eql_nil_nil_at (P := Tryz.prog) (w := w) 101 isErr
  obtain ⟨N, hN⟩ : ∃ N : Nat, N = 512 := ⟨512, rfl⟩
  obtain ⟨s1, hs1⟩ : ∃ s, sumU P N = s := ⟨_, rfl⟩
  obtain ⟨s2, hs2⟩ : ∃ s, sumS P N = s := ⟨_, rfl⟩
  have HU : Hid (SU P = s1) := Lib.hid (by rw [← hs1, hN]; rfl)
  have HUS : Hid (SS P = s2) := Lib.hid (by rw [← hs2, hN]; rfl)
  have HCOMP : Hid (∀ w2, Blk w2 g 118 (bys P) → Calls Tryz.prog 65 #[.pointer (some ⟨g, 0, none⟩)] w2 (Quietly (.tuple #[.int .i64 s1, .int .i64 s2]) w2)) := Lib.hid (by
    intro w2 h2
    have h := compute g N hN P w2 (fun i hi => by rw [h2.cell, bys_get P i (by omega)])
    rw [hs1, hs2] at h
    exact h)
  clear hs1 hs2 hN
  have HCK := Lib.hid hck
  have HM : Hid ((P.drop 257).take 6 = [117, 115, 116, 97, 114, 32]) := Lib.hid (mg_bytes hmg 0 6 (by omega) hl rfl)
  have HV : Hid ((P.drop 263).take 2 = [32, 0]) := Lib.hid (mg_bytes hmg 6 2 (by omega) hl rfl)
  have HT : Hid ((P.drop 508).take 4 = [0, 0, 0, 0]) := Lib.hid (zt_bytes hzt hl)
  clear hck hmg hzt
  clear hb hl ha ha1 ha2
  go_enter Tryz.func50, Tryz.ntmps50
  go_wp2_with (first
    | (go_at_call 63; refine (at_toV7 _ _).mono ?_; rintro e w' ⟨rfl, rfl⟩)
    | (go_at_call 64; refine (at_chksum g _).mono ?_; rintro e w' ⟨rfl, rfl⟩)
    | (go_at_call 62; refine HCALL.out.mono ?_; rintro e w2 ⟨x, ok, rfl, hR, hPA, hb2⟩; obtain ⟨rfl, HXH⟩ := HCK.out x ok hR; have HX := Lib.hid HXH; have HB2 := Lib.hid (HB1.out.trans hb2); have HB3 := Lib.hid (HBL.out.below HB2.out HBL.out.lt); have HPP := Lib.hid (hPA.1 rfl); clear hR hPA hb2 HXH)
    | (go_at_call 65; refine (HCOMP.out _ HB3.out).mono ?_; rintro e w3 ⟨rfl, q, rfl⟩; have kp : (w2.drewN q).cell? ⟨w.heap.size, 0, none⟩ = some .nilIface := HPP.out.cell 0; have n1 : (x == s1) = true := beq_iff_eq.2 (by rw [← HU.out]; exact HX.out); have n1b : x = s1 := beq_iff_eq.1 n1; have n3 : (x != x) = false := (by simp); subst n1b))
  refine (at_toUSTAR _ _).mono ?_
  rintro e w' ⟨rfl, rfl⟩
  go_wp2_with fail
  refine (at_magic g _).mono ?_
  rintro e w' ⟨rfl, rfl⟩
  go_wp2_with (refine wpList_conv_bytes (o := ⟨some 35, _, _, _, _, _⟩) _ rfl (.tmp 34) 35 9 5 rfl Tryz.underlying35 Tryz.underlying5 Tryz.underlying9 (some ⟨g, 257, none⟩) 6 255 (g + 1) [117, 115, 116, 97, 114, 32] rfl rfl (by have h := rb_at (HB3.out.drewN q) 257 6 (by rw [HL.out]; omega); rw [HM.out] at h; exact h) ?_; rw [show mkS [117, 115, 116, 97, 114, 32] = ⟨#[117, 115, 116, 97, 114, 32]⟩ from rfl])
  refine (at_toUSTAR _ _).mono ?_
  rintro e w' ⟨rfl, rfl⟩
  go_wp2_with fail
  refine (at_version g _).mono ?_
  rintro e w' ⟨rfl, rfl⟩
  go_wp2_with (refine wpList_conv_bytes (o := ⟨some 39, _, _, _, _, _⟩) _ rfl (.tmp 38) 35 9 5 rfl Tryz.underlying35 Tryz.underlying5 Tryz.underlying9 (some ⟨g, 263, none⟩) 2 249 (g + 1) [32, 0] rfl rfl (by have h := rb_at (HB3.out.drewN q) 263 2 (by rw [HL.out]; omega); rw [HV.out] at h; exact h) ?_; rw [show mkS [32, 0] = ⟨#[32, 0]⟩ from rfl])
  refine (at_toSTAR _ _).mono ?_
  rintro e w' ⟨rfl, rfl⟩
  go_wp2_with fail
  refine (at_trailer g _).mono ?_
  rintro e w' ⟨rfl, rfl⟩
  go_wp2_with (refine wpList_conv_bytes (o := ⟨some 43, _, _, _, _, _⟩) _ rfl (.tmp 42) 35 9 5 rfl Tryz.underlying35 Tryz.underlying5 Tryz.underlying9 (some ⟨g, 508, none⟩) 4 4 (g + 1) [0, 0, 0, 0] rfl rfl (by have h := rb_at (HB3.out.drewN q) 508 4 (by rw [HL.out]; omega); rw [HT.out] at h; exact h) ?_; rw [show mkS [0, 0, 0, 0] = ⟨#[0, 0, 0, 0]⟩ from rfl])
  go_ret
  exact ⟨rfl, below_drewN HB2.out q⟩
end Go.Proofs.YtepeehjajhehfaaGreatDoor
