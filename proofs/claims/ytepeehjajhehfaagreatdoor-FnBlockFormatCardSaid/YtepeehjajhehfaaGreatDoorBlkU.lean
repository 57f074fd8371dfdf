/- The chooser of package spec: block, USTAR's way. -/
import Derived.Test.YtepeehjajhehfaaGreatDoorBlk
namespace Go.Proofs.YtepeehjajhehfaaGreatDoor
open Go.RowKit Go.PlainAid
set_option linter.unusedVariables false

set_option maxRecDepth 20000 in
set_option maxHeartbeats 6400000 in
theorem chBlockU (Cb k : Nat) (h : Hd) (w : World) (hC : Ch Cb k w) (hk : k ≤ 100) (ok : h.Ok) (hn : h.name.size ≤ 100) :
    Calls Tryz.prog 29 #[.pointer (some ⟨Cb, 0, none⟩), h.val, .int .i64 1] w (BlockP Cb false w) := by
  have HC := Lib.hid hC
  have OK := Lib.hid ok
  unfold Hd.val Hd.arr Hd.cells
  clear hC ok
  go_enter Tryz.func29, Tryz.ntmps29
  go_wp2_with (refine wpList_make_blk _ (o := ⟨some 17, _, _, _, _, _⟩) rfl _ _ _ rfl 5 _ 1 Tryz.underlying35 u8info rfl _ _ 512 512 512 rfl rfl rfl rfl (by omega) (by omega) ?_)
  intro w1 b1 g1 z1
  have HS1 : Hid (BS Cb w.heap.size (w.heap.size + 1) k h (fun _ => True) w w1) := Lib.hid (by
    have hb : Below w.heap.size w w1 := ((Below.refl _ w).alloc (Nat.le_refl _) _).trans (grownBy_below g1 (by simp) (by simp))
    have hh := (h.new_ w 32).grown g1 (by simp)
    have hb1 : Blk w1 (w.heap.size + 1) 5 (bys (zbs 512)) := by rw [bys_zbs]; have := b1.out; simpa using this
    exact ⟨HC.out.below hb HC.out.lt, hh, ⟨zbs 512, length_zbs _, Zt.zbs_, trivial, hb1⟩, Far.of_below hb, HC.out.lt, by omega, rfl⟩)
  clear b1 g1 z1
  generalize Value.agg #[.int .u8 h.ty, .string h.name, .string h.link, .int .i64 h.size, .int .i64 h.mode, .int .i64 h.uid, .int .i64 h.gid, .string h.un, .string h.gn, .int .i64 h.ms, .int .i64 h.mn, .bool h.ha, .bool h.hc, .int .i64 h.as_, .int .i64 h.an, .int .i64 h.cs, .int .i64 h.cn, .int .i64 h.maj, .int .i64 h.min, .slice h.rA h.rn h.rc, .int .i64 h.fm] = AG
  obtain ⟨H, hH⟩ : ∃ H, w.heap.size = H := ⟨_, rfl⟩
  obtain ⟨g, hg⟩ : ∃ g, w.heap.size + 1 = g := ⟨_, rfl⟩
  rw [hg, hH] at HS1
  rw [hg, hH]
  have k1 := HS1.out.cell 1 _ rfl
  obtain ⟨s, hs⟩ : ∃ s, h.name = s := ⟨_, rfl⟩
  rw [hs] at k1 hn
  have HNM := Lib.hid hs
  have HH := Lib.hid (And.intro hH hg)
  have hCH := HS1.out.c0
  have hHg := HS1.out.c1
  clear hH hg hs
  have HAS := fun w => Lib.hid (specASCII s w (by omega))
  obtain ⟨ba, hba⟩ : ∃ ba, asc s = ba := ⟨_, rfl⟩
  rw [hba] at HAS
  have HSZ := Lib.hid HS1.out.gl
  clear hba
  go_upto_if 23 with fail
  go_cut [9] (fun sv wx => ∃ (s2 : ByteArray) (k2 : Nat), sv = .string s2 ∧ k2 ≤ k + 1 ∧ Hid (BS Cb H g k2 h (fun _ => True) w wx))
  case first =>
    go_wp2_with fail
    go_loopw [10, 26] (fun lv iv wr => ∃ (i m : Nat) (xs : List Int), i ≤ s.size ∧ iv = .int .i64 i ∧ m ≤ i ∧ xs.length = m ∧ Hid (AllSp s xs) ∧ Hid (wr.ownsRow w1.heap.size 3 1 lv m (nums xs)) ∧ Hid (Below w1.heap.size w1 wr)) (fun _ iv _ => s.size - (intOf iv).toNat)
    case atStart => exact ⟨0, 0, [], by omega, rfl, by omega, rfl, Lib.hid (fun x hx => by cases hx), Lib.hid (World.ownsRow_nil _ _ _ _), Lib.hid (Below.refl _ _)⟩
    case round =>
      obtain ⟨i, m, xs, hi, rfl, hm, hxl, HX, HO, HW⟩ := hrel
      have HXL := Lib.hid hxl
      clear hxl
      by_cases hlt : i < s.size
      · cases ba with
        | false =>
          go_wp2_with (go_at_call 40; refine (HAS _).out.mono ?_; rintro e w' ⟨rfl, rfl⟩)
          go_roundw
          case rel => exact ⟨i + 1, m, xs, by omega, by go_num, by omega, HXL.out, HX, HO, HW⟩
          case measure => simp [intOf]; omega
        | true =>
          by_cases hsp : Sp s i
          · have HSP := fun w => Lib.hid (specSplit s i w (by omega) (by omega))
            rw [spB_true hsp] at HSP
            have HX2 : Hid (AllSp s (xs ++ [(i : Int)])) := Lib.hid (fun x hx => by
              rcases List.mem_append.1 hx with h1 | h1
              · exact HX.out x h1
              · rw [List.mem_singleton.1 h1]; exact ⟨i, rfl, hsp⟩)
            have HXS := Lib.hid hsp
            have HBZ := Lib.hid HW.out.size
            clear hsp
            go_wp2_with (first
              | (go_at_call 40; refine (HAS _).out.mono ?_; rintro e w' ⟨rfl, rfl⟩)
              | (go_at_call 42; refine (HSP _).out.mono ?_; rintro e w' ⟨rfl, rfl⟩)
              | (at_builtin; refine wpList_append_one (o := ⟨some 39, _, _, _, _, _⟩) rfl (.tmp 36) (.tmp 38) _ rfl w1.heap.size 3 _ 8 Tryz.underlying27 intinfo rfl _ m (nums xs) rfl (HO.out.alloc _) rfl rfl (by omega) (by omega) HBZ.out ?_))
            intro v' w3 o3 g3 _
            have HO3 : Hid (w3.ownsRow w1.heap.size 3 1 v' (m + 1) (nums (xs ++ [(i : Int)]))) := Lib.hid (by rw [nums_snoc]; exact o3.out)
            have HW3 : Hid (Below w1.heap.size w1 w3) := Lib.hid ((HW.out.alloc HW.out.size _).grown g3.out (by have := HW.out.size; simp; omega) (fun q hq => (HO.out.lt q hq).1))
            clear o3 g3
            go_wp2
            go_roundw
            case rel => exact ⟨i + 1, m + 1, xs ++ [(i : Int)], by omega, by go_num, by omega, by rw [List.length_append, HXL.out]; rfl, HX2, HO3, HW3⟩
            case measure => simp [intOf]; omega
          · have HSP := fun w => Lib.hid (specSplit s i w (by omega) (by omega))
            rw [spB_false hsp] at HSP
            clear hsp
            go_wp2_with (first
              | (go_at_call 40; refine (HAS _).out.mono ?_; rintro e w' ⟨rfl, rfl⟩)
              | (go_at_call 42; refine (HSP _).out.mono ?_; rintro e w' ⟨rfl, rfl⟩))
            go_roundw
            case rel => exact ⟨i + 1, m, xs, by omega, by go_num, by omega, HXL.out, HX, HO, HW⟩
            case measure => simp [intOf]; omega
      · obtain rfl : i = s.size := by omega
        have HSW : Hid (BS Cb H g k h (fun _ => True) w wr) := Lib.hid (HS1.out.grown HW.out HSZ.out)
        have u1 : IntKind.i64.wrap ((m : Int) + 1) = (m : Int) + 1 := IntWalk.i64_in _ (by omega)
        have HOF := Lib.hid (chOf Cb k (m + 1) wr HSW.out.ch (by omega) (by omega) (by omega))
        have e1 : (((m + 1 : Nat)) : Int) = (m : Int) + 1 := by omega
        rw [e1] at HOF
        clear e1
        obtain ⟨A5, c5, rfl, _, hc5, _⟩ := own_form HO.out
        go_wp2_with fail
        refine HOF.out.mono ?_
        rintro e w4 ⟨v, k4, hv, rfl, hk4, hch4, hf4⟩
        have HS4 : Hid (BS Cb H g k4 h (fun _ => True) w w4) := Lib.hid (HSW.out.of hch4 hf4)
        have HO4 := Lib.hid (own_of_far HO.out hf4 (fun q hq => by
          have h1 := (HO.out.lt q hq).1
          have h2 := HSZ.out
          simp
          omega))
        clear hch4 hf4 HOF
        by_cases hm0 : m = 0
        · have hm1 : ¬ (0 : Int) < (m : Int) := by omega
          go_wp2_with fail
          go_meet
          case rel => exact ⟨s, k4, rfl, by omega, HS4⟩
        · have hm1 : (0 : Int) < (m : Int) := by omega
          have hs1 : ¬ (100 : Int) < (s.size : Int) := by omega
          by_cases hv0 : v = 0
          · have hv1 : ¬ (0 : Int) < (v : Int) := by omega
            go_wp2_with fail
            go_meet
            case rel => exact ⟨s, k4, rfl, by omega, HS4⟩
          · have hv1 : (0 : Int) < (v : Int) := by omega
            obtain ⟨u, hu⟩ : ∃ u : Nat, (v : Int) - 1 = (u : Int) := ⟨v - 1, by omega⟩
            have hum : u < m := by omega
            have u2 : IntKind.i64.wrap ((v : Int) - 1) = (u : Int) := by rw [IntWalk.i64_in _ (by omega), hu]
            have u3 : max (u : Int) 0 = (u : Int) := by omega
            obtain ⟨xb, xo, rfl, _, hcell⟩ := (RC.of_own HO4.out).num (k := u) (by rw [HXL.out]; exact hum)
            replace hcell := hcell u (by rw [HXL.out]; exact hum)
            obtain ⟨p, hp, hsp⟩ := HX.out (nv xs u) (by
              have h1 : u < xs.length := by rw [HXL.out]; exact hum
              have h2 : nv xs u = xs[u] := by simp [nv, List.getD, h1]
              rw [h2]
              exact List.getElem_mem h1)
            rw [hp] at hcell
            have hu0 : (0 : Int) ≤ (u : Int) := by omega
            have hum' : (u : Int) < (m : Int) := by omega
            obtain ⟨p1, p2, p3, _, _, _⟩ := hsp
            have p4 : (0 : Int) ≤ (p : Int) := by omega
            have p5 : (p : Int) ≤ (s.size : Int) := by omega
            have p6 : IntKind.i64.wrap ((p : Int) + 1) = (p : Int) + 1 := IntWalk.i64_in _ (by omega)
            have p7 : (p : Int) + 1 ≤ (s.size : Int) := by omega
            clear hu hp
            go_wp2_with fail
            obtain ⟨bs5, hl5, hz5, _, hb5⟩ := HS4.out.drew.blk
            have HB5 := Lib.hid hb5
            have hfit5 : 345 + 155 ≤ bs5.length := by omega
            clear hb5
            go_region_held3 (fun w' => BS Cb H g k4 h (fun _ => True) w w') (first | exact HS4.out.drew | assumption | exact HS5.out)
              ((refine step_copy_stro rfl (.tmp 65) (.tmp 68) 35 9 rfl 5 Tryz.underlying35 u8size g 345 155 (512 - 345) (s.extract 0 p) (by simp [Act.eval]) (by simp [Act.eval]) bs5 5 HB5.out hfit5 ?_; intro w5 b5 g5; have HS5 : Hid (BS Cb H g k4 h (fun _ => True) w w5) := Lib.hid (HS4.out.drew.cpy hl5 hz5 b5.out g5 (by have := take_le (s := s.extract 0 p) (n := 155); omega) trivial); clear b5 g5))
            clear HB5
            go_wp2_with fail
            go_meet
            case rel => exact ⟨s.extract (p + 1) s.size, k4, rfl, by omega, HS5⟩
  case rest =>
    obtain ⟨s2, k2, rfl, hk2, HSr⟩ := hcut
    clear k1 HAS HSZ
    obtain ⟨bs1, hl1, hz1, _, hb1⟩ := HSr.out.blk
    have HB1 := Lib.hid hb1
    have hfit1 : 0 + 100 ≤ bs1.length := by omega
    clear hb1
    go_wp2_with (refine wpList_copy_stro (o := ⟨some 77, _, _, _, _, _⟩) _ rfl (.tmp 75) (.tmp 76) 35 9 rfl 5 Tryz.underlying35 u8size g 0 100 512 s2 rfl rfl bs1 5 HB1.out hfit1 ?_)
    intro w2 b2 g2 z2
    have HS2 : Hid (BS Cb H g k2 h (fun _ => True) w w2) := Lib.hid (HSr.out.cpy hl1 hz1 b2.out g2 (by have := take_le (s := s2) (n := 100); omega) trivial)
    clear b2 g2 z2 HB1 
    have e3 := HS2.out.cell 3 _ rfl
    have e4 := HS2.out.cell 4 _ rfl
    have e5 := HS2.out.cell 5 _ rfl
    have e6 := HS2.out.cell 6 _ rfl
    have e9 := HS2.out.cell 9 _ rfl
    have e17 := HS2.out.cell 17 _ rfl
    have e18 := HS2.out.cell 18 _ rfl
    have HS3 : Hid (BS Cb H g k2 h (fun _ => True) w (w2.alloc (.cells #[.int .i64 100, .int .i64 108, .int .i64 h.mode, .int .i64 108, .int .i64 116, .int .i64 h.uid, .int .i64 116, .int .i64 124, .int .i64 h.gid, .int .i64 124, .int .i64 136, .int .i64 h.size, .int .i64 136, .int .i64 148, .int .i64 h.ms, .int .i64 329, .int .i64 337, .int .i64 h.maj, .int .i64 337, .int .i64 345, .int .i64 h.min] 92))) := Lib.hid (HS2.out.alloc _)
    have HE3 : Hid (Blk (w2.alloc (.cells #[.int .i64 100, .int .i64 108, .int .i64 h.mode, .int .i64 108, .int .i64 116, .int .i64 h.uid, .int .i64 116, .int .i64 124, .int .i64 h.gid, .int .i64 124, .int .i64 136, .int .i64 h.size, .int .i64 136, .int .i64 148, .int .i64 h.ms, .int .i64 329, .int .i64 337, .int .i64 h.maj, .int .i64 337, .int .i64 345, .int .i64 h.min] 92)) w2.heap.size 92 (flds h)) := Lib.hid (Blk.new w2 _ (flds h))
    have HGE : Hid (g < w2.heap.size) := Lib.hid HS2.out.gl
    go_wp2
    go_loopw [102] (fun v wr => ∃ j k' : Nat, j ≤ 7 ∧ v = .int .i64 j ∧ k' ≤ k2 + 4 * j ∧ Hid (BS Cb H g k' h (fun _ => True) w wr) ∧ Hid (Blk wr w2.heap.size 92 (flds h))) (fun v _ => 7 - (intOf v).toNat)
    case atStart => exact ⟨0, k2, by omega, rfl, by omega, HS3, HE3⟩
    case round =>
      obtain ⟨j, k', hj, rfl, hk', HS, HE⟩ := hrel
      clear e3 e4 e5 e6 e9 e17 e18
      by_cases hj7 : j < 7
      · obtain ⟨y0, y1, y2⟩ := flds_at h hj7
        obtain ⟨r1, r2, r3, r4⟩ := fr_to hj7
        obtain ⟨n1, n2⟩ := nn_bd OK.out j
        obtain ⟨p, hp⟩ : ∃ p, fr j = p := ⟨_, rfl⟩
        obtain ⟨q, hq⟩ : ∃ q, to_ j = q := ⟨_, rfl⟩
        obtain ⟨x, hx⟩ : ∃ x, nn h j = x := ⟨_, rfl⟩
        rw [hp] at y0 r1 r2 r4
        rw [hq] at y1 r1 r2 r3 r4
        rw [hx] at y2 n1 n2
        have d0 : wr.cell? ⟨w2.heap.size, j * 3, none⟩ = some (.int .i64 (p : Int)) := by rw [HE.out.cell, y0]
        have d1 : wr.cell? ⟨w2.heap.size, j * 3 + 1, none⟩ = some (.int .i64 (q : Int)) := by rw [HE.out.cell, y1]
        have d2 : wr.cell? ⟨w2.heap.size, j * 3 + 2, none⟩ = some (.int .i64 x) := by rw [HE.out.cell, y2]
        have hj0 : (0 : Int) ≤ (j : Int) := by omega
        have hj1 : (j : Int) < 7 := by omega
        have p0 : (0 : Int) ≤ (p : Int) := by omega
        have pq : (p : Int) ≤ (q : Int) := by omega
        have q5 : (q : Int) ≤ 512 := by omega
        have hw : IntKind.i64.wrap ((q : Int) - (p : Int)) = (q : Int) - (p : Int) := IntWalk.i64_in _ (by omega)
        have HSA : Hid (BS Cb H g k' h (fun _ => True) w (wr.alloc (.cells #[.int .i64 (p : Int), .int .i64 (q : Int), .int .i64 x] 92))) := Lib.hid (HS.out.alloc _)
        have HEA : Hid (Blk (wr.alloc (.cells #[.int .i64 (p : Int), .int .i64 (q : Int), .int .i64 x] 92)) w2.heap.size 92 (flds h)) := Lib.hid (HE.out.alloc _)
        clear hp hq hx y0 y1 y2
        obtain ⟨bs, hl, hz, _, hbs⟩ := HSA.out.blk
        have HBS := Lib.hid hbs
        have hCg : Cb < g := by omega
        clear hbs
        obtain ⟨jj, hjj⟩ : ∃ jj : Nat, (q : Int) - (p : Int) = (jj : Int) + 1 := ⟨q - p - 1, by omega⟩
        have HFO := fun w => Lib.hid (specFitsO jj ((q : Int) - (p : Int)) x w hjj (by omega) n1 n2)
        obtain ⟨fb, hfb⟩ : ∃ fb, fitsO jj x = fb := ⟨_, rfl⟩
        unfold FitOP at HFO
        rw [hfb] at HFO
        have HFB := Lib.hid hfb
        clear hjj hfb
        cases fb with
        | true =>
          have x0 := (fitsO_pos HFB.out).1
          go_wp2_with (go_at_call 46; refine (HFO _).out.mono ?_; rintro e w' ⟨rfl, rfl⟩)
          refine (chNum Cb k' g p (q - p) (512 - p) x false bs _ HSA.out.ch HBS.out hCg (by omega) (by omega) (by omega) (by omega) n1 n2 (fun _ => x0) (by omega)).mono ?_
          rintro e w5 ⟨rfl, k5, f5, hk5, hf5, hch5, hb5, hfar5⟩
          have HS5 : Hid (BS Cb H g k5 h (fun _ => True) w w5) := Lib.hid (HSA.out.put hl hz hch5 hb5 hfar5 (by omega) trivial)
          have HE5 : Hid (Blk w5 w2.heap.size 92 (flds h)) := Lib.hid (HEA.out.of_far hfar5 (by have := HGE.out; simp; omega))
          clear hch5 hb5 hfar5
          go_wp2
          go_roundw
          case rel => exact ⟨j + 1, k5, by omega, by go_num, by omega, HS5, HE5⟩
          case measure => simp [intOf] <;> omega
        | false =>
          go_wp2_with (go_at_call 46; refine (HFO _).out.mono ?_; rintro e w' ⟨rfl, rfl⟩)
          refine (chNum Cb k' g p (q - p) (512 - p) 0 false bs _ HSA.out.ch HBS.out hCg (by omega) (by omega) (by omega) (by omega) (by omega) (by omega) (fun _ => Int.le_refl _) (by omega)).mono ?_
          rintro e w5 ⟨rfl, k5, f5, hk5, hf5, hch5, hb5, hfar5⟩
          have HS5 : Hid (BS Cb H g k5 h (fun _ => True) w w5) := Lib.hid (HSA.out.put hl hz hch5 hb5 hfar5 (by omega) trivial)
          have HE5 : Hid (Blk w5 w2.heap.size 92 (flds h)) := Lib.hid (HEA.out.of_far hfar5 (by have := HGE.out; simp; omega))
          clear hch5 hb5 hfar5
          go_wp2
          go_roundw
          case rel => exact ⟨j + 1, k5, by omega, by go_num, by omega, HS5, HE5⟩
          case measure => simp [intOf] <;> omega
      · obtain rfl : j = 7 := by omega
        obtain ⟨⟨v0, q0⟩, q1, hset⟩ := HS.out.set_ (i := 156) (by omega) h.ty OK.out.ty
        have HS6 := Lib.hid hset
        have c0 := HS.out.cell 0 _ rfl
        have hCg : Cb < g := by omega
        clear hset
        go_wp2_with fail
        generalize wr.setCell ⟨g, 156, none⟩ (.int .u8 h.ty) = w6 at HS6 ⊢
        clear q0 q1 c0 HS HE HS3 HE3
        obtain ⟨bs7, hl7, hz7, hp7, hb7⟩ := HS6.out.drew.blk
        have HB7 := Lib.hid hb7
        have hfit7 : 157 + 100 ≤ bs7.length := by omega
        have d7 := HS6.out.cell 2 _ rfl
        clear hb7
        go_region_held3 (fun w' => w'.cell? ⟨H, 2, none⟩ = some (.string h.link) ∧ BS Cb H g k' h (fun _ => True) w w') (first | exact ⟨d7, HS6.out.drew⟩ | assumption | exact ⟨HS7.out.cell 2 _ rfl, HS7.out⟩)
          ((refine step_copy_stro rfl (.tmp 136) (.tmp 138) 35 9 rfl 5 Tryz.underlying35 u8size g 157 100 (512 - 157) h.link (by simp [Act.eval]) (by simp [Act.eval]) bs7 5 HB7.out hfit7 ?_; intro w7 b7 g7; have HS7 : Hid (BS Cb H g k' h (fun _ => True) w w7) := Lib.hid (HS6.out.drew.cpy hl7 hz7 b7.out g7 (by have := take_le (s := h.link) (n := 100); omega) trivial); clear b7 g7))
        clear d7 HB7
        obtain ⟨bs8, hl8, hz8, hp8, hb8⟩ := HS7.out.blk
        have HB8 := Lib.hid hb8
        have hfit8 : 257 + 8 ≤ bs8.length := by omega
        clear hb8
        go_wp2_with (refine wpList_copy_stro (o := ⟨some 142, _, _, _, _, _⟩) _ rfl (.tmp 141) (.const (.string ⟨#[117, 115, 116, 97, 114, 0, 48, 48]⟩)) 35 9 rfl 5 Tryz.underlying35 u8size g 257 8 (512 - 257) ⟨#[117, 115, 116, 97, 114, 0, 48, 48]⟩ rfl rfl bs8 5 HB8.out hfit8 ?_)
        intro w8 b8 g8 z8
        have HS8 : Hid (BS Cb H g k' h (Mg false) w w8) := Lib.hid (HS7.out.cpy hl8 hz8 b8.out g8 (by decide) (Mg.new_ (b := false) hl8))
        clear b8 g8 z8 HB8
        go_wp2_with fail
        obtain ⟨bs20, hl20, hz20, hp20, hb20⟩ := HS8.out.drew.blk
        have HB20 := Lib.hid hb20
        have hfit20 : 265 + 32 ≤ bs20.length := by omega
        have d20 := HS8.out.cell 7 _ rfl
        clear hb20
        go_region_held3 (fun w' => w'.cell? ⟨H, 7, none⟩ = some (.string h.un) ∧ BS Cb H g k' h (Mg false) w w') (first | exact ⟨d20, HS8.out.drew⟩ | assumption | exact ⟨HS20.out.cell 7 _ rfl, HS20.out⟩)
          ((refine step_copy_stro rfl (.tmp 166) (.tmp 168) 35 9 rfl 5 Tryz.underlying35 u8size g 265 32 (512 - 265) h.un (by simp [Act.eval]) (by simp [Act.eval]) bs20 5 HB20.out hfit20 ?_; intro w20 b20 g20; have HS20 : Hid (BS Cb H g k' h (Mg false) w w20) := Lib.hid (HS8.out.drew.cpy hl20 hz20 b20.out g20 (by have := take_le (s := h.un) (n := 32); omega) (hp20.put hl20 (by have := take_le (s := h.un) (n := 32); omega) (.inr (by omega)))); clear b20 g20))
        clear d20 HB20
        go_wp2_with fail
        obtain ⟨bs21, hl21, hz21, hp21, hb21⟩ := HS20.out.drew.blk
        have HB21 := Lib.hid hb21
        have hfit21 : 297 + 32 ≤ bs21.length := by omega
        have d21 := HS20.out.cell 8 _ rfl
        clear hb21
        go_region_held3 (fun w' => w'.cell? ⟨H, 8, none⟩ = some (.string h.gn) ∧ BS Cb H g k' h (Mg false) w w') (first | exact ⟨d21, HS20.out.drew⟩ | assumption | exact ⟨HS21.out.cell 8 _ rfl, HS21.out⟩)
          ((refine step_copy_stro rfl (.tmp 171) (.tmp 173) 35 9 rfl 5 Tryz.underlying35 u8size g 297 32 (512 - 297) h.gn (by simp [Act.eval]) (by simp [Act.eval]) bs21 5 HB21.out hfit21 ?_; intro w21 b21 g21; have HS21 : Hid (BS Cb H g k' h (Mg false) w w21) := Lib.hid (HS20.out.drew.cpy hl21 hz21 b21.out g21 (by have := take_le (s := h.gn) (n := 32); omega) (hp21.put hl21 (by have := take_le (s := h.gn) (n := 32); omega) (.inr (by omega)))); clear b21 g21))
        clear d21 HB21
        obtain ⟨bs22, hl22, hz22, hp22, hb22⟩ := HS21.out.blk
        have HB22 := Lib.hid hb22
        clear hb22
        go_wp2_with fail
        refine (chSum Cb k' g 512 bs22 _ HS21.out.ch HB22.out hl22 hCg (by omega) (by omega)).mono ?_
        intro e w22 hS22
        have HP22 := Lib.hid (blockP_of HS21.out hl22 hz22 hp22 hS22)
        obtain ⟨rfl, _⟩ := hS22
        go_wp2
        go_ret
        exact HP22.out
end Go.Proofs.YtepeehjajhehfaaGreatDoor
