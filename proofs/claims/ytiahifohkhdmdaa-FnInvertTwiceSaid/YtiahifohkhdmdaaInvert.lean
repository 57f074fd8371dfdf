/- Walks of the functions that turn a map's pieces into those between them. -/
import Derived.Test.YtiahifohkhdmdaaAlign
import Derived.Test.YtiahifohkhdmdaaGen
namespace Go.Proofs.Ytiahifohkhdmdaa
open Go.RowKit

/-- Where the open hole begins, and the holes that are closed, behind k pieces. -/
def ipos (ps : List (Int × Int)) : Nat → Int
  | 0 => 0
  | k + 1 => if pl ps k = 0 then ipos ps k else po ps k + pl ps k
def ipre (ps : List (Int × Int)) : Nat → List (Int × Int)
  | 0 => []
  | k + 1 => if pl ps k = 0 then ipre ps k else if 0 < po ps k - ipos ps k then ipre ps k ++ [(ipos ps k, po ps k - ipos ps k)] else ipre ps k
def inv (ps : List (Int × Int)) (size : Int) : List (Int × Int) := ipre ps ps.length ++ [(ipos ps ps.length, size - ipos ps ps.length)]
theorem ipre_len (ps : List (Int × Int)) (k : Nat) : (ipre ps k).length ≤ k := by
  induction k with
  | zero => exact Nat.le_refl _
  | succ k ih =>
    unfold ipre
    by_cases h : pl ps k = 0
    · rw [if_pos h]; omega
    · rw [if_neg h]
      by_cases h2 : 0 < po ps k - ipos ps k
      · rw [if_pos h2, List.length_append, List.length_singleton]; omega
      · rw [if_neg h2]; omega
theorem inv_len (ps : List (Int × Int)) (size : Int) : (inv ps size).length ≤ ps.length + 1 ∧ 0 < (inv ps size).length := by
  have := ipre_len ps ps.length
  unfold inv
  rw [List.length_append, List.length_singleton]
  omega
theorem ipos_bd {ps : List (Int × Int)} {size : Int} : ∀ k, (∀ j, j < k → okP ps size j) → 0 ≤ ipos ps k ∧ ipos ps k ≤ ve ps k
  | 0, _ => ⟨Int.le_refl _, Int.le_refl _⟩
  | k + 1, h => by
    have h0 := ipos_bd k (fun j hj => h j (by omega))
    have h1 := h k (by omega)
    unfold okP at h1
    rw [ipos, ve]
    by_cases h2 : pl ps k = 0
    · rw [if_pos h2]; omega
    · rw [if_neg h2]; omega

set_option maxRecDepth 20000 in
set_option maxHeartbeats 2000000 in
theorem invert_some (g n c base : Nat) (ps : List (Int × Int)) (size : Int) (w : World) (hn : ps.length = n) (how : w.ownsRow base 73 2 (.slice (some ⟨g, 0, none⟩) n c) n (pcs ps)) (hB : base ≤ w.heap.size) (hbig : n ≤ 2147483646)
    (hok : ∀ j, j < n → okP ps size j) (hs : 0 ≤ size) (hs' : size ≤ 1099511627776) :
    Calls Try.prog 43 #[.slice (some ⟨g, 0, none⟩) n c, .int .i64 size] w (Turned 73 base (inv ps size) w) := by
  obtain ⟨hbg, hnc, hcm, L, hW⟩ := Work.start how hn
  have hgl := hW.blk.lt
  have HN := Lib.hid hn
  have HK := Lib.hid hok
  have HW0 : Hid (∃ L, Work (w.alloc (.cells #[.int .i64 0, .int .i64 0] 73)) g 73 c (ipre ps 0) ps 0 L) := ⟨L, ⟨hW.blk.alloc _, hW.len, hW.new_, hW.le, hW.old_⟩⟩
  have HCM := Lib.hid hcm
  have HGL := Lib.hid hgl
  have hz := zero_entry
  clear hn how hok hW hcm
  go_enter Try.func43, Try.ntmps43
  go_wp2
  go_loopw [5, 13] (fun v i wr => ∃ (k : Nat) (q : Int), k ≤ n ∧ i = .int .i64 k ∧ v = .slice (some ⟨g, 0, none⟩) (ipre ps k).length c ∧ Hid (∃ L, Work wr g 73 c (ipre ps k) ps k L) ∧ Blk wr w.heap.size 73 [.int .i64 (ipos ps k), .int .i64 q] ∧ Hid (Below base w wr)) (fun _ i _ => n - (intOf i).toNat)
  case atStart => exact ⟨0, 0, by omega, rfl, rfl, HW0, Blk.new _ _ _, (Below.refl _ _).alloc hB _⟩
  case round =>
    obtain ⟨k, q, hk, rfl, rfl, hWk, hpre, hbw⟩ := hrel
    obtain ⟨L, hW⟩ := hWk.out
    have hps := hpre.lt
    by_cases hlt : k < n
    · obtain ⟨hc1, hc2⟩ := hW.cells (by rw [HN.out]; exact hlt)
      have hok1 := HK.out k hlt
      unfold okP at hok1
      obtain ⟨i1, i2⟩ := ipos_bd k (fun j hj => HK.out j (by omega))
      have HWK := Lib.hid hW
      have HPR := Lib.hid hpre
      clear hW hWk hpre
      have hp0 : wr.cell? ⟨w.heap.size, 0, none⟩ = some (.int .i64 (ipos ps k)) := by rw [HPR.out.cell]; rfl
      have hp1 : wr.cell? ⟨w.heap.size, 1, none⟩ = some (.int .i64 q) := by rw [HPR.out.cell]; rfl
      have hf0 := HPR.out.frozen 0
      have hf1 := HPR.out.frozen 1
      by_cases hl : pl ps k = 0
      · have hl' : (pl ps k == 0) = true := by rw [hl]; rfl
        have E1 : Hid (ipre ps (k + 1) = ipre ps k) := by show _ = _; rw [ipre, if_pos hl]
        have E2 : Hid (ipos ps (k + 1) = ipos ps k) := by show _ = _; rw [ipos, if_pos hl]
        clear hl
        go_wp2
        go_roundw
        case rel => exact ⟨k + 1, q, by omega, by go_num, by rw [E1.out], ⟨L, by rw [E1.out]; exact HWK.out.skip (HWK.out.blk.alloc _)⟩, by rw [E2.out]; exact HPR.out.alloc _, hbw.out.alloc (by have := hbw.out.size; omega) _⟩
        case measure => simp [intOf]; omega
      · have hl' : (pl ps k == 0) = false := by simpa using hl
        have E2 : Hid (ipos ps (k + 1) = po ps k + pl ps k) := by show _ = _; rw [ipos, if_neg hl]
        have HGW := Lib.hid hbw.out.size
        obtain ⟨ws, hws⟩ : ∃ ws, ws = wr.setCell ⟨w.heap.size, 1, none⟩ (.int .i64 (po ps k - ipos ps k)) := ⟨_, rfl⟩
        have HS0 : Hid (Blk ws w.heap.size 73 [.int .i64 (ipos ps k), .int .i64 (po ps k - ipos ps k)]) := by rw [hws]; exact HPR.out.set_ 1 _
        have HS1 : Hid (Blk ws g 73 L) := by rw [hws]; exact HWK.out.blk.far (p := ⟨w.heap.size, 1, none⟩) (by have := HGL.out; exact Nat.ne_of_lt this) _
        have HSZ : Hid (ws.heap.size = wr.heap.size) := by rw [hws]; simp [World.setCell, Hid]
        have HSB : Hid (Below base w ws) := by rw [hws]; exact hbw.out.setCell (p := ⟨w.heap.size, 1, none⟩) hB _
        by_cases hd : 0 < po ps k - ipos ps k
        · have E1 : Hid (ipre ps (k + 1) = ipre ps k ++ [(ipos ps k, po ps k - ipos ps k)]) := by show _ = _; rw [ipre, if_neg hl, if_pos hd]
          have HRC : Hid (RC ((ws.alloc (.cells #[.int .i64 (po ps k), .int .i64 (pl ps k)] 73)).alloc (.cells #[.int .i64 (ipos ps k), .int .i64 (po ps k - ipos ps k)] 73)) (wr.heap.size + 2) (some ⟨wr.heap.size + 1, 0, none⟩) [.int .i64 (ipos ps k), .int .i64 (po ps k - ipos ps k)]) := by rw [← HSZ.out]; exact rc_new2 _ _ _ _
          have HBG := Lib.hid ((HS1.out.alloc (.cells #[.int .i64 (po ps k), .int .i64 (pl ps k)] 73)).alloc (.cells #[.int .i64 (ipos ps k), .int .i64 (po ps k - ipos ps k)] 73))
          have HPP := Lib.hid ((HS0.out.alloc (.cells #[.int .i64 (po ps k), .int .i64 (pl ps k)] 73)).alloc (.cells #[.int .i64 (ipos ps k), .int .i64 (po ps k - ipos ps k)] 73))
          have HCC : Hid (Blk ((ws.alloc (.cells #[.int .i64 (po ps k), .int .i64 (pl ps k)] 73)).alloc (.cells #[.int .i64 (ipos ps k), .int .i64 (po ps k - ipos ps k)] 73)) wr.heap.size 73 [.int .i64 (po ps k), .int .i64 (pl ps k)]) := by rw [← HSZ.out]; exact (Blk.new _ _ _).alloc _
          have HBB := Lib.hid ((HSB.out.alloc (o := .cells #[.int .i64 (po ps k), .int .i64 (pl ps k)] 73) (by have := HGW.out; have := HSZ.out; omega)).alloc (o := .cells #[.int .i64 (ipos ps k), .int .i64 (po ps k - ipos ps k)] 73) (by have := HGW.out; have := HSZ.out; simp; omega))
          rw [hws] at HRC HBG HPP HCC HBB
          clear hws hl
          go_wp2_with (refine wpList_append_room (o := ⟨some 32, _, _, _, _, _⟩) _ rfl (.tmp 29) (.tmp 31) _ rfl 73 _ 2 16 Try.underlying64 pinfo_entry g _ c L rfl HBG.out (wr.heap.size + 1) 0 1 1 (wr.heap.size + 2) _ rfl rfl HRC.out (two_one _ _) (by have := HWK.out.le; omega) (by have := HWK.out.le; have := HWK.out.len; simp; omega) ?_)
          intro w1 h1 h2 h3
          have HP1 := Lib.hid (HPP.out.grown h2.out (by have := HGL.out; simp; omega))
          have HC1 := Lib.hid (HCC.out.grown h2.out (by have := HGL.out; simp; omega))
          have HB1 := Lib.hid (HBB.out.grown h2.out (by have := HGW.out; simp [World.setCell]; omega) (fun k hk => by injection hk with hk; omega))
          have hq0 : w1.cell? ⟨w.heap.size, 0, none⟩ = some (.int .i64 (ipos ps k)) := by rw [HP1.out.cell]; rfl
          have hq1 : w1.cell? ⟨w.heap.size, 1, none⟩ = some (.int .i64 (po ps k - ipos ps k)) := by rw [HP1.out.cell]; rfl
          have hr0 : w1.cell? ⟨wr.heap.size, 0, none⟩ = some (.int .i64 (po ps k)) := by rw [HC1.out.cell]; rfl
          have hr1 : w1.cell? ⟨wr.heap.size, 1, none⟩ = some (.int .i64 (pl ps k)) := by rw [HC1.out.cell]; rfl
          have hg0 := HP1.out.frozen 0
          have hz1 : w.heap.size < w1.heap.size := HP1.out.lt
          have hz2 : wr.heap.size < w1.heap.size := HC1.out.lt
          clear h3 hp0 hp1 hf0 hf1
          go_wp2_with (go_at_call 46; refine (endOffset_any (po ps k) (pl ps k) _ (by omega) (by omega)).mono ?_; rintro e w' ⟨rfl, rfl⟩)
          go_roundw
          case rel => exact ⟨k + 1, po ps k - ipos ps k, by omega, by go_num, by rw [E1.out]; simp, ⟨_, by rw [E1.out]; exact HWK.out.push (by omega) _ _ ((h1.out.far (p := ⟨w.heap.size, 0, none⟩) (by have := HGL.out; exact Nat.ne_of_lt this) _).alloc _)⟩, by rw [E2.out]; exact (HP1.out.set_ 0 _).alloc _, (HB1.out.setCell (p := ⟨w.heap.size, 0, none⟩) hB _).alloc (by have := HB1.out.size; simp [World.setCell]; omega) _⟩
          case measure => simp [intOf]; omega
        · have E1 : Hid (ipre ps (k + 1) = ipre ps k) := by show _ = _; rw [ipre, if_neg hl, if_neg hd]
          rw [hws] at HS0 HS1 HSB
          clear hws hl
          go_wp2_with (go_at_call 46; refine (endOffset_any (po ps k) (pl ps k) _ (by omega) (by omega)).mono ?_; rintro e w' ⟨rfl, rfl⟩)
          go_roundw
          case rel => exact ⟨k + 1, po ps k - ipos ps k, by omega, by go_num, by rw [E1.out], ⟨L, by rw [E1.out]; exact HWK.out.skip (((HS1.out.far (p := ⟨w.heap.size, 0, none⟩) (by have := HGL.out; exact Nat.ne_of_lt this) _).alloc _).alloc _)⟩, by rw [E2.out]; exact ((HS0.out.set_ 0 _).alloc _).alloc _, ((HSB.out.setCell (p := ⟨w.heap.size, 0, none⟩) hB _).alloc (by have := HGW.out; simp [World.setCell]; omega) _).alloc (by have := HGW.out; simp [World.setCell]; omega) _⟩
          case measure => simp [intOf]; omega
    · obtain rfl : k = n := by omega
      obtain ⟨i1, i2⟩ := ipos_bd k HK.out
      have i3 : ipos ps k ≤ size ∨ k = 0 := by
        rcases ve_le HK.out with h | h
        · exact .inr h
        · exact .inl (by omega)
      have i4 : ipos ps k ≤ 1099511627776 := by
        rcases i3 with h | h
        · omega
        · subst h; (show (0 : Int) ≤ _; omega)
      have HWK := Lib.hid hW
      have HPR := Lib.hid hpre
      have hp0 : wr.cell? ⟨w.heap.size, 0, none⟩ = some (.int .i64 (ipos ps k)) := by rw [hpre.cell]; rfl
      have hp1 : wr.cell? ⟨w.heap.size, 1, none⟩ = some (.int .i64 q) := by rw [hpre.cell]; rfl
      have hf1 := hpre.frozen 1
      have hlen := ipre_len ps k
      have HGW := Lib.hid hbw.out.size
      clear hW hWk hpre
      obtain ⟨ws, hws⟩ : ∃ ws, ws = wr.setCell ⟨w.heap.size, 1, none⟩ (.int .i64 (size - ipos ps k)) := ⟨_, rfl⟩
      have HS1 : Hid (Work (ws.alloc (.cells #[.int .i64 (ipos ps k), .int .i64 (size - ipos ps k)] 73)) g 73 c (ipre ps k) ps k L) := by
        rw [hws]
        exact ⟨(HWK.out.blk.far (p := ⟨w.heap.size, 1, none⟩) (by have := HGL.out; exact Nat.ne_of_lt this) _).alloc _, HWK.out.len, HWK.out.new_, HWK.out.le, HWK.out.old_⟩
      have HSZ : Hid (ws.heap.size = wr.heap.size) := by rw [hws]; simp [World.setCell, Hid]
      have HSB : Hid (Below base w (ws.alloc (.cells #[.int .i64 (ipos ps k), .int .i64 (size - ipos ps k)] 73))) := by
        have h1 := HSZ.out
        have h2 := HGW.out
        have h3 : Below base w ws := by rw [hws]; exact hbw.out.setCell (p := ⟨w.heap.size, 1, none⟩) hB _
        exact h3.alloc (by omega) _
      have HOW := Lib.hid (HS1.out.own (base := base) hnc HCM.out hbg)
      have HRC : Hid (RC (ws.alloc (.cells #[.int .i64 (ipos ps k), .int .i64 (size - ipos ps k)] 73)) (wr.heap.size + 1) (some ⟨wr.heap.size, 0, none⟩) [.int .i64 (ipos ps k), .int .i64 (size - ipos ps k)]) := by rw [← HSZ.out]; exact RC.of_blk (Blk.new _ _ _)
      rw [hws] at HOW HRC HSB
      have HNK : Hid ((inv ps size).length = (ipre ps k).length + 1) := by show _ = _; rw [inv, HN.out, List.length_append]; rfl
      have HPC : Hid (pcs (inv ps size) = pcs (ipre ps k) ++ [.int .i64 (ipos ps k), .int .i64 (size - ipos ps k)]) := by show _ = _; rw [inv, HN.out, pcs_append]; rfl
      clear hws hbw
      go_wp2_with (refine wpList_append_rc (o := ⟨some 45, _, _, _, _, _⟩) _ rfl (.tmp 42) (.tmp 44) _ rfl base 73 _ 2 16 Try.underlying64 pinfo_entry rfl (by omega) _ (ipre ps k).length _ rfl HOW.out _ 1 1 (wr.heap.size + 1) _ rfl rfl HRC.out (two_one _ _) (by omega) (by omega) (by have := HGW.out; simp [World.setCell]; omega) ?_)
      intro v' w1 h1 h2 h3
      go_wp2
      go_ret
      refine ⟨_, rfl, by rw [HNK.out, HPC.out]; exact h1.out, HSB.out.grown h2.out (by have := HGW.out; simp [World.setCell]; omega) (fun g' hg' => (HOW.out.lt g' hg').1)⟩
end Go.Proofs.Ytiahifohkhdmdaa
