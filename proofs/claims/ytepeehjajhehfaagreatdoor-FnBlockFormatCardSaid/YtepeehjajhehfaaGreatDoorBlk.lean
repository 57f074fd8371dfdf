/- The chooser of package spec: block, GNU's way. -/
import Derived.Test.YtepeehjajhehfaaGreatDoorBlkP
namespace Go.Proofs.YtepeehjajhehfaaGreatDoor
open Go.RowKit Go.PlainAid
set_option linter.unusedVariables false

theorem intinfo : (Tryz.prog.info? 3).map (fun i => (i.zero, i.size, i.bytes)) = some (some (.int .i64 0), 1, 8) := by kernel_rfl
theorem BS.cell {Cb H g k : Nat} {h : Hd} {P : List UInt8 → Prop} {w0 w : World} (s : BS Cb H g k h P w0 w) (i : Nat) (v : Value) (hv : h.cells[i]? = some v) : w.cell? ⟨H, i, none⟩ = some v := by rw [s.hd.cell, hv]
def AllSp (s : ByteArray) (xs : List Int) : Prop := ∀ x ∈ xs, ∃ i : Nat, x = (i : Int) ∧ Sp s i
theorem nums_snoc (xs : List Int) (x : Int) : nums (xs ++ [x]) = nums xs ++ [.int .i64 x] := by simp [nums]
/-- The numbers of a block, with their fields. -/
def fr (j : Nat) : Nat := [100, 108, 116, 124, 136, 329, 337].getD j 0
def to_ (j : Nat) : Nat := [108, 116, 124, 136, 148, 337, 345].getD j 0
def nn (h : Hd) (j : Nat) : Int := [h.mode, h.uid, h.gid, h.size, h.ms, h.maj, h.min].getD j 0
theorem fr_to {j : Nat} (hj : j < 7) : fr j + 8 ≤ to_ j ∧ to_ j ≤ fr j + 12 ∧ to_ j ≤ 345 ∧ (to_ j ≤ 148 ∨ 329 ≤ fr j) := by
  match j, hj with
  | 0, _ => decide
  | 1, _ => decide
  | 2, _ => decide
  | 3, _ => decide
  | 4, _ => decide
  | 5, _ => decide
  | 6, _ => decide
theorem nn_bd {h : Hd} (ok : h.Ok) (j : Nat) : -9223372036854775808 ≤ nn h j ∧ nn h j ≤ 9223372036854775807 := by
  match j with
  | 0 => exact ok.mode
  | 1 => exact ok.uid
  | 2 => exact ok.gid
  | 3 => exact ok.size
  | 4 => exact ok.ms
  | 5 => exact ok.maj
  | 6 => exact ok.min
  | j + 7 => show _ ≤ (0 : Int) ∧ (0 : Int) ≤ _; omega
/-- The row of the fields, as it lies in memory. -/
def flds (h : Hd) : List Value := [.int .i64 100, .int .i64 108, .int .i64 h.mode, .int .i64 108, .int .i64 116, .int .i64 h.uid, .int .i64 116, .int .i64 124, .int .i64 h.gid, .int .i64 124, .int .i64 136, .int .i64 h.size, .int .i64 136, .int .i64 148, .int .i64 h.ms, .int .i64 329, .int .i64 337, .int .i64 h.maj, .int .i64 337, .int .i64 345, .int .i64 h.min]
theorem flds_at (h : Hd) {j : Nat} (hj : j < 7) : (flds h)[j * 3]? = some (.int .i64 (fr j : Nat)) ∧ (flds h)[j * 3 + 1]? = some (.int .i64 (to_ j : Nat)) ∧ (flds h)[j * 3 + 2]? = some (.int .i64 (nn h j)) := by
  match j, hj with
  | 0, _ => exact ⟨rfl, rfl, rfl⟩
  | 1, _ => exact ⟨rfl, rfl, rfl⟩
  | 2, _ => exact ⟨rfl, rfl, rfl⟩
  | 3, _ => exact ⟨rfl, rfl, rfl⟩
  | 4, _ => exact ⟨rfl, rfl, rfl⟩
  | 5, _ => exact ⟨rfl, rfl, rfl⟩
  | 6, _ => exact ⟨rfl, rfl, rfl⟩
theorem BS.set_ {Cb H g k i : Nat} {h : Hd} {w0 w : World} (s : BS Cb H g k h (fun _ => True) w0 w) (hi : i < 500) (u : Int) (hu : 0 ≤ u ∧ u ≤ 255) : (∃ v, w.cell? ⟨g, i, none⟩ = some v) ∧ w.frozen? ⟨g, i, none⟩ = false ∧ BS Cb H g k h (fun _ => True) w0 (w.setCell ⟨g, i, none⟩ (.int .u8 u)) := by
  obtain ⟨bs, hl, hz, _, hb⟩ := s.blk
  have hh := s.c1
  have hc := s.c0
  have h0 := s.c2
  obtain ⟨x, hx⟩ : ∃ x : UInt8, (x.toNat : Int) = u := ⟨UInt8.ofNat u.toNat, by simp; omega⟩
  have hf : Far [g] w (w.setCell ⟨g, i, none⟩ (.int .u8 u)) := (Far.refl _ w).setCell (.inl (by simp)) _
  have e1 : bys (splice bs i [x]) = (bys bs).set i (.int .u8 u) := by
    rw [← hx, bys_setB]
    congr 1
    apply List.ext_getElem?
    intro j
    by_cases hj : j = i
    · subst hj
      rw [splice_in (by simp; omega) (Nat.le_refl _) (by simp), Nat.sub_self, List.getElem?_set_self (by omega)]
      rfl
    · rw [splice_out (by simp; omega) (by simp; omega), List.getElem?_set_ne (by omega)]
  refine ⟨⟨_, by rw [hb.cell, bys_get bs i (by omega)]⟩, hb.frozen i, ?_⟩
  exact s.put hl hz (s.ch.far hf (fun j hj => by simp at hj; omega)) (by rw [e1]; exact hb.set_ i _) (Far.mono hf (fun j _ hj => by simp at hj; simp [hj])) (by simp; omega) trivial
theorem take_le {s : ByteArray} {n : Nat} : (s.data.toList.take n).length ≤ n := by rw [List.length_take]; omega
/-- The block, whatever it holds. -/
theorem BS.bytes {Cb H g k : Nat} {h : Hd} {P : List UInt8 → Prop} {w0 w : World} (s : BS Cb H g k h P w0 w) : ∃ bs : List UInt8, bs.length = 512 ∧ Zt bs ∧ P bs ∧ Blk w g 5 (bys bs) := s.blk
set_option maxRecDepth 20000 in
set_option maxHeartbeats 6400000 in
theorem chBlockG (Cb k : Nat) (h : Hd) (w : World) (hC : Ch Cb k w) (hk : k ≤ 100) (ok : h.Ok) (hn : h.name.size ≤ 100) :
    Calls Tryz.prog 29 #[.pointer (some ⟨Cb, 0, none⟩), h.val, .int .i64 3] w (BlockP Cb true w) := by
  have HC := Lib.hid hC
  have OK := Lib.hid ok
  unfold Hd.val Hd.arr Hd.cells
  clear hC ok
  go_enter Tryz.func29, Tryz.ntmps29
  go_wp2_with (refine wpList_make_blk _ (o := ⟨some 17, _, _, _, _, _⟩) rfl _ _ _ rfl 5 _ 1 Tryz.underlying35 u8info rfl _ _ 512 512 512 rfl rfl rfl rfl (by omega) (by omega) ?_)
  intro w1 b1 g1 z1
  have HS1 : Hid (BS Cb w.heap.size (w.heap.size + 1) k h (fun _ => True) w w1) := Lib.hid (by
    have hb : Below w.heap.size w w1 := ((Below.refl _ w).alloc (Nat.le_refl _) _).trans (grownBy_below g1 (by simp) (by simp))
    have hh := (h.new_ w 32).grown g1 (by simp)
    have hb1 : Blk w1 (w.heap.size + 1) 5 (bys (zbs 512)) := by rw [bys_zbs]; have := b1.out; simpa using this
    exact ⟨HC.out.below hb HC.out.lt, hh, ⟨zbs 512, length_zbs _, Zt.zbs_, trivial, hb1⟩, Far.of_below hb, HC.out.lt, by omega, rfl⟩)
  clear b1 g1 z1
  generalize Value.agg #[.int .u8 h.ty, .string h.name, .string h.link, .int .i64 h.size, .int .i64 h.mode, .int .i64 h.uid, .int .i64 h.gid, .string h.un, .string h.gn, .int .i64 h.ms, .int .i64 h.mn, .bool h.ha, .bool h.hc, .int .i64 h.as_, .int .i64 h.an, .int .i64 h.cs, .int .i64 h.cn, .int .i64 h.maj, .int .i64 h.min, .slice h.rA h.rn h.rc, .int .i64 h.fm] = AG
  obtain ⟨H, hH⟩ : ∃ H, w.heap.size = H := ⟨_, rfl⟩
  obtain ⟨g, hg⟩ : ∃ g, w.heap.size + 1 = g := ⟨_, rfl⟩
  rw [hg, hH] at HS1
  rw [hg, hH]
  have k1 := HS1.out.cell 1 _ rfl
  obtain ⟨s, hs⟩ : ∃ s, h.name = s := ⟨_, rfl⟩
  rw [hs] at k1 hn
  have HNM := Lib.hid hs
  have HH := Lib.hid (And.intro hH hg)
  have hCH := HS1.out.c0
  have hHg := HS1.out.c1
  clear hH hg hs
  obtain ⟨bs1, hl1, hz1, _, hb1⟩ := HS1.out.blk
  have HB1 := Lib.hid hb1
  have hfit1 : 0 + 100 ≤ bs1.length := by omega
  clear hb1
  go_wp2_with (refine wpList_copy_stro (o := ⟨some 77, _, _, _, _, _⟩) _ rfl (.tmp 75) (.tmp 76) 35 9 rfl 5 Tryz.underlying35 u8size g 0 100 512 s rfl rfl bs1 5 HB1.out hfit1 ?_)
  intro w2 b2 g2 z2
  have HS2 : Hid (BS Cb H g k h (fun _ => True) w w2) := Lib.hid (HS1.out.cpy hl1 hz1 b2.out g2 (by have := take_le (s := s) (n := 100); omega) trivial)
  clear b2 g2 z2 HB1 k1
  have e3 := HS2.out.cell 3 _ rfl
  have e4 := HS2.out.cell 4 _ rfl
  have e5 := HS2.out.cell 5 _ rfl
  have e6 := HS2.out.cell 6 _ rfl
  have e9 := HS2.out.cell 9 _ rfl
  have e17 := HS2.out.cell 17 _ rfl
  have e18 := HS2.out.cell 18 _ rfl
  have HS3 : Hid (BS Cb H g k h (fun _ => True) w (w2.alloc (.cells #[.int .i64 100, .int .i64 108, .int .i64 h.mode, .int .i64 108, .int .i64 116, .int .i64 h.uid, .int .i64 116, .int .i64 124, .int .i64 h.gid, .int .i64 124, .int .i64 136, .int .i64 h.size, .int .i64 136, .int .i64 148, .int .i64 h.ms, .int .i64 329, .int .i64 337, .int .i64 h.maj, .int .i64 337, .int .i64 345, .int .i64 h.min] 92))) := Lib.hid (HS2.out.alloc _)
  have HE3 : Hid (Blk (w2.alloc (.cells #[.int .i64 100, .int .i64 108, .int .i64 h.mode, .int .i64 108, .int .i64 116, .int .i64 h.uid, .int .i64 116, .int .i64 124, .int .i64 h.gid, .int .i64 124, .int .i64 136, .int .i64 h.size, .int .i64 136, .int .i64 148, .int .i64 h.ms, .int .i64 329, .int .i64 337, .int .i64 h.maj, .int .i64 337, .int .i64 345, .int .i64 h.min] 92)) w2.heap.size 92 (flds h)) := Lib.hid (Blk.new w2 _ (flds h))
  have HGE : Hid (g < w2.heap.size) := Lib.hid HS2.out.gl
  go_wp2
  go_loopw [102] (fun v wr => ∃ j k' : Nat, j ≤ 7 ∧ v = .int .i64 j ∧ k' ≤ k + 4 * j ∧ Hid (BS Cb H g k' h (fun _ => True) w wr) ∧ Hid (Blk wr w2.heap.size 92 (flds h))) (fun v _ => 7 - (intOf v).toNat)
  case atStart => exact ⟨0, k, by omega, rfl, by omega, HS3, HE3⟩
  case round =>
    obtain ⟨j, k', hj, rfl, hk', HS, HE⟩ := hrel
    clear e3 e4 e5 e6 e9 e17 e18
    by_cases hj7 : j < 7
    · obtain ⟨y0, y1, y2⟩ := flds_at h hj7
      obtain ⟨r1, r2, r3, r4⟩ := fr_to hj7
      obtain ⟨n1, n2⟩ := nn_bd OK.out j
      obtain ⟨p, hp⟩ : ∃ p, fr j = p := ⟨_, rfl⟩
      obtain ⟨q, hq⟩ : ∃ q, to_ j = q := ⟨_, rfl⟩
      obtain ⟨x, hx⟩ : ∃ x, nn h j = x := ⟨_, rfl⟩
      rw [hp] at y0 r1 r2 r4
      rw [hq] at y1 r1 r2 r3 r4
      rw [hx] at y2 n1 n2
      have d0 : wr.cell? ⟨w2.heap.size, j * 3, none⟩ = some (.int .i64 (p : Int)) := by rw [HE.out.cell, y0]
      have d1 : wr.cell? ⟨w2.heap.size, j * 3 + 1, none⟩ = some (.int .i64 (q : Int)) := by rw [HE.out.cell, y1]
      have d2 : wr.cell? ⟨w2.heap.size, j * 3 + 2, none⟩ = some (.int .i64 x) := by rw [HE.out.cell, y2]
      have hj0 : (0 : Int) ≤ (j : Int) := by omega
      have hj1 : (j : Int) < 7 := by omega
      have p0 : (0 : Int) ≤ (p : Int) := by omega
      have pq : (p : Int) ≤ (q : Int) := by omega
      have q5 : (q : Int) ≤ 512 := by omega
      have hw : IntKind.i64.wrap ((q : Int) - (p : Int)) = (q : Int) - (p : Int) := IntWalk.i64_in _ (by omega)
      have HSA : Hid (BS Cb H g k' h (fun _ => True) w (wr.alloc (.cells #[.int .i64 (p : Int), .int .i64 (q : Int), .int .i64 x] 92))) := Lib.hid (HS.out.alloc _)
      have HEA : Hid (Blk (wr.alloc (.cells #[.int .i64 (p : Int), .int .i64 (q : Int), .int .i64 x] 92)) w2.heap.size 92 (flds h)) := Lib.hid (HE.out.alloc _)
      clear hp hq hx y0 y1 y2
      obtain ⟨bs, hl, hz, _, hbs⟩ := HSA.out.blk
      have HBS := Lib.hid hbs
      have hCg : Cb < g := by omega
      clear hbs
      go_wp2_with fail
      refine (chNum Cb k' g p (q - p) (512 - p) x true bs _ HSA.out.ch HBS.out hCg (by omega) (by omega) (by omega) (by omega) n1 n2 (fun h => by cases h) (by omega)).mono ?_
      rintro e w5 ⟨rfl, k5, f5, hk5, hf5, hch5, hb5, hfar5⟩
      have HS5 : Hid (BS Cb H g k5 h (fun _ => True) w w5) := Lib.hid (HSA.out.put hl hz hch5 hb5 hfar5 (by omega) trivial)
      have HE5 : Hid (Blk w5 w2.heap.size 92 (flds h)) := Lib.hid (HEA.out.of_far hfar5 (by have := HGE.out; simp; omega))
      clear hch5 hb5 hfar5
      go_wp2
      go_roundw
      case rel => exact ⟨j + 1, k5, by omega, by go_num, by omega, HS5, HE5⟩
      case measure => simp [intOf] <;> omega
    · obtain rfl : j = 7 := by omega
      obtain ⟨⟨v0, q0⟩, q1, hset⟩ := HS.out.set_ (i := 156) (by omega) h.ty OK.out.ty
      have HS6 := Lib.hid hset
      have c0 := HS.out.cell 0 _ rfl
      have hCg : Cb < g := by omega
      clear hset
      go_wp2_with fail
      generalize wr.setCell ⟨g, 156, none⟩ (.int .u8 h.ty) = w6 at HS6 ⊢
      clear q0 q1 c0 HS HE HS3 HE3
      obtain ⟨bs7, hl7, hz7, hp7, hb7⟩ := HS6.out.drew.blk
      have HB7 := Lib.hid hb7
      have hfit7 : 157 + 100 ≤ bs7.length := by omega
      have d7 := HS6.out.cell 2 _ rfl
      clear hb7
      go_region_held3 (fun w' => w'.cell? ⟨H, 2, none⟩ = some (.string h.link) ∧ BS Cb H g k' h (fun _ => True) w w') (first | exact ⟨d7, HS6.out.drew⟩ | assumption | exact ⟨HS7.out.cell 2 _ rfl, HS7.out⟩)
        ((refine step_copy_stro rfl (.tmp 136) (.tmp 138) 35 9 rfl 5 Tryz.underlying35 u8size g 157 100 (512 - 157) h.link (by simp [Act.eval]) (by simp [Act.eval]) bs7 5 HB7.out hfit7 ?_; intro w7 b7 g7; have HS7 : Hid (BS Cb H g k' h (fun _ => True) w w7) := Lib.hid (HS6.out.drew.cpy hl7 hz7 b7.out g7 (by have := take_le (s := h.link) (n := 100); omega) trivial); clear b7 g7))
      clear d7 HB7
      obtain ⟨bs8, hl8, hz8, hp8, hb8⟩ := HS7.out.blk
      have HB8 := Lib.hid hb8
      have hfit8 : 257 + 8 ≤ bs8.length := by omega
      clear hb8
      go_wp2_with (refine wpList_copy_stro (o := ⟨some 142, _, _, _, _, _⟩) _ rfl (.tmp 141) (.const (.string ⟨#[117, 115, 116, 97, 114, 0, 48, 48]⟩)) 35 9 rfl 5 Tryz.underlying35 u8size g 257 8 (512 - 257) ⟨#[117, 115, 116, 97, 114, 0, 48, 48]⟩ rfl rfl bs8 5 HB8.out hfit8 ?_)
      intro w8 b8 g8 z8
      have HS8 : Hid (BS Cb H g k' h (Mg false) w w8) := Lib.hid (HS7.out.cpy hl8 hz8 b8.out g8 (by decide) (Mg.new_ (b := false) hl8))
      clear b8 g8 z8 HB8
      obtain ⟨bs9, hl9, hz9, hp9, hb9⟩ := HS8.out.blk
      have HB9 := Lib.hid hb9
      have hfit9 : 257 + 8 ≤ bs9.length := by omega
      clear hb9
      go_wp2_with (refine wpList_copy_stro (o := ⟨some 146, _, _, _, _, _⟩) _ rfl (.tmp 145) (.const (.string ⟨#[117, 115, 116, 97, 114, 32, 32, 0]⟩)) 35 9 rfl 5 Tryz.underlying35 u8size g 257 8 (512 - 257) ⟨#[117, 115, 116, 97, 114, 32, 32, 0]⟩ rfl rfl bs9 5 HB9.out hfit9 ?_)
      intro w9 b9 g9 z9
      have HS9 : Hid (BS Cb H g k' h (Mg true) w w9) := Lib.hid (HS8.out.cpy hl9 hz9 b9.out g9 (by decide) (Mg.new_ (b := true) hl9))
      clear b9 g9 z9 HB9
      obtain ⟨a1, a2⟩ := OK.out.as_
      obtain ⟨a3, a4⟩ := OK.out.cs
      have d11 := HS9.out.cell 11 _ rfl
      obtain ⟨ba, hba⟩ : ∃ ba, h.ha = ba := ⟨_, rfl⟩
      rw [hba] at d11
      clear hba
      go_upto_if 148 with fail
      go_cut [] (fun wx => ∃ k2, k2 ≤ k' + 4 ∧ Hid (BS Cb H g k2 h (Mg true) w wx))
      case first =>
        cases ba
        · go_wp2_with fail
          go_meet
          case rel => exact ⟨k', by omega, HS9⟩
        · go_wp2_with fail
          obtain ⟨bs10, hl10, hz10, hp10, hb10⟩ := HS9.out.drew.blk
          have HB10 := Lib.hid hb10
          have d10 := HS9.out.cell 13 _ rfl
          clear hb10
          go_region_held3 (fun w' => w'.cell? ⟨H, 13, none⟩ = some (.int .i64 h.as_) ∧ ∃ kk, kk ≤ k' + 4 ∧ BS Cb H g kk h (Mg true) w w') (first | exact ⟨d10, k', by omega, HS9.out.drew⟩ | assumption | exact ⟨HS10.out.cell 13 _ rfl, k10, by omega, HS10.out⟩)
            ((go_at_call 47; refine (chNum Cb k' g 345 12 167 h.as_ true bs10 _ HS9.out.drew.ch HB10.out hCg (by omega) (by omega) (by omega) (by omega) a1 a2 (fun h => by cases h) (by omega)).mono ?_; rintro e w10 ⟨rfl, k10, f10, hk10, hf10, hch10, hb10, hfar10⟩; have HS10 : Hid (BS Cb H g k10 h (Mg true) w w10) := Lib.hid (HS9.out.drew.put hl10 hz10 hch10 hb10 hfar10 (by omega) (hp10.put hl10 (by omega) (.inr (by omega)))); clear hch10 hb10 hfar10))
          clear d10 HB10
          go_wp2_with fail
          go_meet
          case rel => exact ⟨k10, by omega, HS10⟩
      case rest =>
        obtain ⟨k2, hk2, HS11⟩ := hcut
        clear d11
        have d12 := HS11.out.cell 12 _ rfl
        obtain ⟨bc, hbc⟩ : ∃ bc, h.hc = bc := ⟨_, rfl⟩
        rw [hbc] at d12
        clear hbc
        go_upto_if 157 with fail
        go_cut [] (fun wx => ∃ k2, k2 ≤ k' + 8 ∧ Hid (BS Cb H g k2 h (Mg true) w wx))
        case first =>
          cases bc
          · go_wp2_with fail
            go_meet
            case rel => exact ⟨k2, by omega, HS11⟩
          · go_wp2_with fail
            obtain ⟨bs12, hl12, hz12, hp12, hb12⟩ := HS11.out.drew.blk
            have HB12 := Lib.hid hb12
            have d12 := HS11.out.cell 15 _ rfl
            clear hb12
            go_region_held3 (fun w' => w'.cell? ⟨H, 15, none⟩ = some (.int .i64 h.cs) ∧ ∃ kk, kk ≤ k2 + 4 ∧ BS Cb H g kk h (Mg true) w w') (first | exact ⟨d12, k2, by omega, HS11.out.drew⟩ | assumption | exact ⟨HS12.out.cell 15 _ rfl, k12, by omega, HS12.out⟩)
              ((go_at_call 47; refine (chNum Cb k2 g 357 12 155 h.cs true bs12 _ HS11.out.drew.ch HB12.out hCg (by omega) (by omega) (by omega) (by omega) a3 a4 (fun h => by cases h) (by omega)).mono ?_; rintro e w12 ⟨rfl, k12, f12, hk12, hf12, hch12, hb12, hfar12⟩; have HS12 : Hid (BS Cb H g k12 h (Mg true) w w12) := Lib.hid (HS11.out.drew.put hl12 hz12 hch12 hb12 hfar12 (by omega) (hp12.put hl12 (by omega) (.inr (by omega)))); clear hch12 hb12 hfar12))
            clear d12 HB12
            go_wp2_with fail
            go_meet
            case rel => exact ⟨k12, by omega, HS12⟩
        case rest =>
          obtain ⟨k3, hk3, HS13⟩ := hcut
          clear d12
          go_wp2_with fail
          obtain ⟨bs20, hl20, hz20, hp20, hb20⟩ := HS13.out.drew.blk
          have HB20 := Lib.hid hb20
          have hfit20 : 265 + 32 ≤ bs20.length := by omega
          have d20 := HS13.out.cell 7 _ rfl
          clear hb20
          go_region_held3 (fun w' => w'.cell? ⟨H, 7, none⟩ = some (.string h.un) ∧ BS Cb H g k3 h (Mg true) w w') (first | exact ⟨d20, HS13.out.drew⟩ | assumption | exact ⟨HS20.out.cell 7 _ rfl, HS20.out⟩)
            ((refine step_copy_stro rfl (.tmp 166) (.tmp 168) 35 9 rfl 5 Tryz.underlying35 u8size g 265 32 (512 - 265) h.un (by simp [Act.eval]) (by simp [Act.eval]) bs20 5 HB20.out hfit20 ?_; intro w20 b20 g20; have HS20 : Hid (BS Cb H g k3 h (Mg true) w w20) := Lib.hid (HS13.out.drew.cpy hl20 hz20 b20.out g20 (by have := take_le (s := h.un) (n := 32); omega) (hp20.put hl20 (by have := take_le (s := h.un) (n := 32); omega) (.inr (by omega)))); clear b20 g20))
          clear d20 HB20
          go_wp2_with fail
          obtain ⟨bs21, hl21, hz21, hp21, hb21⟩ := HS20.out.drew.blk
          have HB21 := Lib.hid hb21
          have hfit21 : 297 + 32 ≤ bs21.length := by omega
          have d21 := HS20.out.cell 8 _ rfl
          clear hb21
          go_region_held3 (fun w' => w'.cell? ⟨H, 8, none⟩ = some (.string h.gn) ∧ BS Cb H g k3 h (Mg true) w w') (first | exact ⟨d21, HS20.out.drew⟩ | assumption | exact ⟨HS21.out.cell 8 _ rfl, HS21.out⟩)
            ((refine step_copy_stro rfl (.tmp 171) (.tmp 173) 35 9 rfl 5 Tryz.underlying35 u8size g 297 32 (512 - 297) h.gn (by simp [Act.eval]) (by simp [Act.eval]) bs21 5 HB21.out hfit21 ?_; intro w21 b21 g21; have HS21 : Hid (BS Cb H g k3 h (Mg true) w w21) := Lib.hid (HS20.out.drew.cpy hl21 hz21 b21.out g21 (by have := take_le (s := h.gn) (n := 32); omega) (hp21.put hl21 (by have := take_le (s := h.gn) (n := 32); omega) (.inr (by omega)))); clear b21 g21))
          clear d21 HB21
          obtain ⟨bs22, hl22, hz22, hp22, hb22⟩ := HS21.out.blk
          have HB22 := Lib.hid hb22
          clear hb22
          go_wp2_with fail
          refine (chSum Cb k3 g 512 bs22 _ HS21.out.ch HB22.out hl22 hCg (by omega) (by omega)).mono ?_
          intro e w22 hS22
          have HP22 := Lib.hid (blockP_of HS21.out hl22 hz22 hp22 hS22)
          obtain ⟨rfl, _⟩ := hS22
          go_wp2
          go_ret
          exact HP22.out
end Go.Proofs.YtepeehjajhehfaaGreatDoor
