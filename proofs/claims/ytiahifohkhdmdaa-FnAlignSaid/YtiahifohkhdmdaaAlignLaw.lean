/- The law FnAlign: its walk. -/
import Derived.Test.YtiahifohkhdmdaaAlignPlain
import Derived.Test.YtiahifohkhdmdaaBelow
namespace Go.Proofs.Ytiahifohkhdmdaa
open Go.RowKit

set_option maxRecDepth 20000 in
set_option maxHeartbeats 4000000 in
theorem fnAlign_walk (A : Option Addr) (n c : Nat) (ns : List Int) (x : Int) (w : World) (hn : ns.length = n) (hr : RC w w.heap.size A (nums ns)) (hm : n ≤ 9223372036854775807) (hsm : Small ns)
    (hx : -9223372036854775808 ≤ x) (hx' : x ≤ 9223372036854775807) :
    Calls Try.prog 7 #[.slice A n c, .int .i64 x] w fun e w' => e = .returned (.bool true) ∧ Below w.heap.size w w' := by
  have HN := Lib.hid hn
  have HR := Lib.hid hr
  have HS := Lib.hid hsm
  clear hn hr hsm
  by_cases hbig : 2147483647 < n
  · go_enter Try.func7, Try.ntmps7
    go_wp2
    go_ret
    exact ⟨rfl, Below.refl _ _⟩
  go_enter Try.func7, Try.ntmps7
  go_wp2
  go_loopw [5, 6, 7] (fun v s i wr => ∃ k j : Nat, k ≤ 8 ∧ j ≤ n ∧ Hid (j = 2 * k) ∧ i = .int .i64 j ∧ s = .int .i64 (aend ns k) ∧ wr.ownsRow w.heap.size 33 2 v k (pcs (aps ns k)) ∧ Below w.heap.size w wr) (fun _ _ i _ => n - (intOf i).toNat)
  case atStart => exact ⟨0, 0, by omega, by omega, rfl, rfl, rfl, World.ownsRow_nil _ _ _ _, Below.refl _ _⟩
  case round =>
    obtain ⟨k, j, hk, hj, hjk, rfl, rfl, hown, hb⟩ := hrel
    obtain ⟨A', c', rfl, _, _, hblk⟩ := own_form hown
    have HO := Lib.hid hown
    have HB := Lib.hid hb
    obtain ⟨e1, e2⟩ := aend_bd ns k
    by_cases hgo : j + 1 < n ∧ k < 8
    · obtain ⟨hg1, hg2⟩ := hgo
      obtain ⟨b, off, hA, hbB, hc⟩ := HR.out.num (k := j) (by rw [HN.out]; omega)
      subst hA
      have hc1 := (hb.cell (p := ⟨b, off + j, none⟩) hbB).trans (hc j (by rw [HN.out]; omega))
      have hc2 := (hb.cell (p := ⟨b, off + (j + 1), none⟩) hbB).trans (hc (j + 1) (by rw [HN.out]; omega))
      obtain ⟨s1, s2⟩ := HS.out j
      obtain ⟨s3, s4⟩ := HS.out (j + 1)
      obtain ⟨m1, m2⟩ : 0 ≤ nv ns j % 1200 ∧ nv ns j % 1200 < 1200 := by omega
      obtain ⟨m3, m4⟩ : 0 ≤ nv ns (j + 1) % 2400 ∧ nv ns (j + 1) % 2400 < 2400 := by omega
      have hjj : (0 : Int) ≤ (j : Int) := by omega
      have hjn : (j : Int) < (n : Int) := by omega
      have hjn1 : (j : Int) + 1 < (n : Int) := by omega
      clear hc hown hb hblk
      go_wp2
      have q1 : IntKind.i64.wrap ((j : Int) + 1) = (j : Int) + 1 := IntWalk.i64_in _ (by omega)
      have q2 : (0 : Int) ≤ (j : Int) + 1 := by omega
      have q3 : ((j : Int) + 1).toNat = j + 1 := by omega
      have q4 : IntKind.i64.wrap (aend ns k + nv ns j % 1200) = aend ns k + nv ns j % 1200 := IntWalk.i64_in _ (by omega)
      go_region_held3 (fun w' => w'.cell? ⟨b, off + j, none⟩ = some (.int .i64 (nv ns j)) ∧ w'.cell? ⟨b, off + (j + 1), none⟩ = some (.int .i64 (nv ns (j + 1)))) (go_keep)
        ((go_at_call 13; refine (below_any _ _ _ (by omega) (by omega) (by omega) (by omega)).mono ?_; rintro e w' ⟨rfl, rfl⟩))
      all_goals
        rename_i hheld
        clear hheld q1 q2 q3 q4 hc1 hc2
        obtain ⟨gp, hgp⟩ : ∃ gp, gp = wr.heap.size := ⟨_, rfl⟩
        have HP : Hid (Blk (wr.alloc (.cells #[.int .i64 (aend ns k + nv ns j % 1200), .int .i64 (nv ns (j + 1) % 2400)] 33)).drew gp 33 [.int .i64 (aend ns k + nv ns j % 1200), .int .i64 (nv ns (j + 1) % 2400)]) := by rw [hgp]; exact Blk.new _ _ _
        have HO2 := Lib.hid ((HO.out.alloc (.cells #[.int .i64 (aend ns k + nv ns j % 1200), .int .i64 (nv ns (j + 1) % 2400)] 33)).drew)
        have HB2 := Lib.hid ((HB.out.alloc (o := .cells #[.int .i64 (aend ns k + nv ns j % 1200), .int .i64 (nv ns (j + 1) % 2400)] 33) HB.out.size).drew)
        have HNE : Hid ((Value.slice A' k c').ownBlock ≠ some gp) := by
          show _ ≠ _
          intro h
          have := (HO.out.lt _ h).2
          omega
        obtain ⟨wo, hwo⟩ : ∃ wo, wo = (wr.alloc (.cells #[.int .i64 (aend ns k + nv ns j % 1200), .int .i64 (nv ns (j + 1) % 2400)] 33)).drew := ⟨_, rfl⟩
        rw [← hwo] at HP HO2 HB2 ⊢
        rw [← hgp]
        have hsz : gp < wo.heap.size := HP.out.lt
        have hp1 : wo.cell? ⟨gp, 0, none⟩ = some (.int .i64 (aend ns k + nv ns j % 1200)) := by rw [HP.out.cell]; rfl
        have hp2 : wo.cell? ⟨gp, 1, none⟩ = some (.int .i64 (nv ns (j + 1) % 2400)) := by rw [HP.out.cell]; rfl
        clear hwo hgp
        go_wp2_with (refine wpList_append_rc (o := ⟨some 49, _, _, _, _, _⟩) _ rfl (.tmp 46) (.tmp 48) _ rfl w.heap.size 33 _ 2 16 Try.underlying30 pinfo_spec rfl (by omega) _ k _ rfl (HO2.out.alloc _) _ 1 1 (wo.heap.size + 1) _ rfl rfl (RC.of_blk (Blk.new _ _ _)) (two_one _ _) (by omega) (by omega) (by have := HB2.out.size; simp; omega) ?_)
        intro v' w1 h1 h2 h3
        have HP1 : Hid (Blk w1 gp 33 [.int .i64 (aend ns k + nv ns j % 1200), .int .i64 (nv ns (j + 1) % 2400)]) := (HP.out.alloc _).grown h2.out (Ne.symm HNE.out)
        have hp3 : w1.cell? ⟨gp, 0, none⟩ = some (.int .i64 (aend ns k + nv ns j % 1200)) := by rw [HP1.out.cell]; rfl
        have hp4 : w1.cell? ⟨gp, 1, none⟩ = some (.int .i64 (nv ns (j + 1) % 2400)) := by rw [HP1.out.cell]; rfl
        have E1 := Lib.hid (aend_succ ns k j hjk.out)
        have E2 := Lib.hid (pcs_aps_succ ns k j hjk.out)
        go_wp2
        go_roundw
        case rel => exact ⟨k + 1, j + 2, by omega, by omega, (show j + 2 = 2 * (k + 1) by have := hjk.out; omega), by go_num, val_i64 E1.out.symm, by rw [E2.out]; exact h1.out, (HB2.out.alloc HB2.out.size _).grown h2.out (by have := HB2.out.size; simp; omega) (fun g hg => (HO.out.lt g hg).1)⟩
        case measure => simp [intOf]; omega
    · have HK := Lib.hid hk
      obtain ⟨y1, y2⟩ : 0 ≤ x % 3 ∧ x % 3 < 3 := by omega
      have HRO := Lib.hid (RC.of_own hown)
      have HL := Lib.hid (aps_len ns k)
      clear hown hb hblk
      rcases (show ¬ j + 1 < n ∨ (j + 1 < n ∧ ¬ k < 8) from by omega) with hgo1 | ⟨hgo1, hgo2⟩
      all_goals
        clear hgo
        go_wp2_with (go_at_call 13; refine (below_any _ _ _ (by omega) (by omega) (by omega) (by omega)).mono ?_; rintro e w' ⟨rfl, rfl⟩)
        obtain ⟨S, hS⟩ : ∃ S : Nat, (aend ns k + 511) / 512 * 512 + 512 * (x % 3) = (S : Int) := ⟨((aend ns k + 511) / 512 * 512 + 512 * (x % 3)).toNat, by omega⟩
        have hS1 : (S : Int) % 512 = 0 := by omega
        have hS2 : aend ns k ≤ (S : Int) := by omega
        have hS3 : S ≤ 40000 := by omega
        have HS1 := Lib.hid hS1
        have HOK := Lib.hid (aps_ok ns k S hS2)
        obtain ⟨m, hm⟩ : ∃ m, (alg (S : Int) (aps ns k)).length = m := ⟨_, rfl⟩
        have hmk : m ≤ k := by rw [← hm]; have := alg_len (S : Int) (aps ns k); rw [aps_len] at this; exact this
        have HM := Lib.hid hm
        rw [hS]
        clear hS hS1 hm
        refine (pieceList_any A' k c' wr.heap.size (aps ns k) wr HL.out HRO.out (Nat.le_refl _) (by omega)).mono ?_
        rintro e w1 ⟨v1, rfl, hown1, hb1⟩
        obtain ⟨A1, c1, rfl, _, _, _⟩ := own_form hown1
        have HA := Lib.hid (implAlign_any A1 k c1 w1.heap.size (aps ns k) S w1 HL.out (RC.of_own hown1) (Nat.le_refl _) (by omega) (aps_near ns k HK.out))
        rw [HM.out] at HA
        have HB1 := Lib.hid (HB.out.trans (hb1.mono HB.out.size))
        have HR1 := Lib.hid (HRO.out.below hb1)
        have HZ1 := Lib.hid hb1.size
        clear hown1 hb1
        go_wp2_with fail
        refine HA.out.mono ?_
        rintro e w2 ⟨v2, rfl, hown2, hb2⟩
        obtain ⟨A2, c2, rfl, _, _, _⟩ := own_form hown2
        have HW : Hid (Within (alg (S : Int) (aps ns k)) S) := alg_within S (aps ns k) (by rw [HL.out]; exact HOK.out)
        have HC := Lib.hid (covers_any A2 m c2 w2.heap.size S (alg (S : Int) (aps ns k)) w2 HM.out (RC.of_own hown2) (Nat.le_refl _) (by omega) HW.out (by omega))
        have HB2 := Lib.hid (HB1.out.trans (hb2.mono HB1.out.size))
        have HR2 := Lib.hid (HR1.out.below (hb2.mono HZ1.out))
        have HZ2 := Lib.hid (Nat.le_trans HZ1.out hb2.size)
        clear hown2 hb2
        go_wp2_with fail
        refine HC.out.mono ?_
        rintro e wc ⟨rfl, hblk, hb3⟩
        obtain ⟨g, hg⟩ : ∃ g, g = w2.heap.size := ⟨_, rfl⟩
        rw [← hg] at hblk ⊢
        have HGB := Lib.hid hblk
        have HRC := Lib.hid ((HR2.out.below (hb3.mono HZ2.out)).more (Nat.le_trans HZ2.out hb3.size))
        have HB3 := Lib.hid (HB2.out.trans (hb3.mono HB2.out.size))
        have HGL := Lib.hid hblk.lt
        clear hblk hb3 hg
        go_wp2_with fail
        go_loopw [12] (fun s wr => ∃ i : Nat, i ≤ S ∧ s = .int .i64 i ∧ Hid ((i : Int) % 512 = 0) ∧ Below wc.heap.size wc wr) (fun s _ => S - (intOf s).toNat)
        case atStart => exact ⟨0, by omega, rfl, (show ((0 : Nat) : Int) % 512 = 0 by omega), Below.refl _ _⟩
        case round =>
          obtain ⟨i, hi, rfl, hi5, hbw⟩ := hrel
          have HBW := Lib.hid hbw
          by_cases hlt : i < S
          · have hiS : i + 512 ≤ S := by have := hi5.out; have := HS1.out; omega
            clear hbw
            go_wp2
            go_loopw [13, 82] (fun s v wr => ∃ q : Nat, q ≤ k ∧ v = .int .i64 q ∧ s = .int .i64 (wnt (aps ns k) i q) ∧ Below wc.heap.size wc wr) (fun _ v _ => k - (intOf v).toNat)
            case atStart => exact ⟨0, by omega, rfl, rfl, HBW.out⟩
            case round =>
              obtain ⟨q, hq, rfl, rfl, hbq⟩ := hrel
              have HBQ := Lib.hid hbq
              by_cases hqk : q < k
              · obtain ⟨b, off, rfl, _, hc1, hc2⟩ := (HRC.out.below hbq).piece (k := q) (by rw [HL.out]; exact hqk)
                obtain ⟨n1, n2, n3⟩ := (aps_near ns k HK.out).at_ q
                clear hbq
                by_cases t1 : po (aps ns k) q ≤ i
                · by_cases t2 : (i : Int) + 512 ≤ po (aps ns k) q + pl (aps ns k) q
                  · have HE : Hid (wnt (aps ns k) i (q + 1) = 1) := by show _ = _; rw [wnt, if_pos ⟨t1, t2⟩]
                    go_wp2
                    go_roundw
                    case rel => exact ⟨q + 1, by omega, by go_num, val_i64 HE.out.symm, HBQ.out.alloc HBQ.out.size _⟩
                    case measure => simp [intOf]; omega
                  · have HE : Hid (wnt (aps ns k) i (q + 1) = wnt (aps ns k) i q) := by show _ = _; rw [wnt, if_neg (fun h => t2 h.2)]
                    go_wp2
                    go_roundw
                    case rel => exact ⟨q + 1, by omega, by go_num, val_i64 HE.out.symm, HBQ.out.alloc HBQ.out.size _⟩
                    case measure => simp [intOf]; omega
                · have HE : Hid (wnt (aps ns k) i (q + 1) = wnt (aps ns k) i q) := by show _ = _; rw [wnt, if_neg (fun h => t1 h.1)]
                  go_wp2
                  go_roundw
                  case rel => exact ⟨q + 1, by omega, by go_num, val_i64 HE.out.symm, HBQ.out.alloc HBQ.out.size _⟩
                  case measure => simp [intOf]; omega
              · obtain rfl : q = k := by omega
                clear hbq
                go_wp2
                go_loop [16] (fun s => ∃ z : Nat, i ≤ z ∧ z ≤ i + 512 ∧ s = .int .i64 z) (fun s => i + 512 - (intOf s).toNat)
                case atStart => exact ⟨i, by omega, by omega, rfl⟩
                case round =>
                  obtain ⟨z, hz1, hz2, rfl⟩ := hrel
                  by_cases hzl : z < i + 512
                  · have HE := Lib.hid (got_eq ns q m S i z HS1.out HOK.out HM.out hi5.out hz1 hzl)
                    have hcell : wr.cell? ⟨g, z, none⟩ = some (.int .i64 (wnt (aps ns q) i q)) := by
                      rw [HBQ.out.cell (p := ⟨g, z, none⟩) HGL.out, HGB.out.cell, ints_get _ _ _ (by omega), HE.out]
                    go_wp2
                    go_round
                    case rel => exact ⟨z + 1, by omega, by omega, by go_num⟩
                    case measure => simp [intOf]; omega
                  · obtain rfl : z = i + 512 := by omega
                    go_wp2
                    go_roundw
                    case rel => exact ⟨i + 512, by omega, by go_num, (show ((i + 512 : Nat) : Int) % 512 = 0 by have := hi5.out; omega), HBQ.out⟩
                    case measure => simp [intOf]; omega
          · obtain rfl : i = S := by omega
            clear hbw
            by_cases hk0 : k = 0
            · obtain rfl : m = 0 := by omega
              subst hk0
              go_wp2
              go_ret
              exact ⟨rfl, HB3.out.trans (HBW.out.mono HB3.out.size)⟩
            · have hk1 : (0 : Int) < (k : Int) := by omega
              go_wp2
              go_ret
              exact ⟨rfl, HB3.out.trans (HBW.out.mono HB3.out.size)⟩
end Go.Proofs.Ytiahifohkhdmdaa
