/- The law FnValidSparse: its plain part and its walks. -/
import Derived.Test.YtiahifohkhdmdaaConv
import Derived.Deep.RegionHeld3
namespace Go.Proofs.Ytiahifohkhdmdaa
open Go.RowKit

/-- Where the pieces before piece k end. -/
def ve (ps : List (Int × Int)) : Nat → Int
  | 0 => 0
  | k + 1 => po ps k + pl ps k
/-- Piece k is in order and within the size. -/
def okP (ps : List (Int × Int)) (size : Int) (k : Nat) : Prop := ve ps k ≤ po ps k ∧ 0 ≤ pl ps k ∧ po ps k + pl ps k ≤ size
def vldP (ps : List (Int × Int)) (size : Int) : Prop := 0 ≤ size ∧ ∀ k, k < ps.length → okP ps size k
noncomputable def vld (ps : List (Int × Int)) (size : Int) : Bool := @decide (vldP ps size) (Classical.propDecidable _)
theorem vld_false {ps : List (Int × Int)} {size : Int} (h : ¬ vldP ps size) : vld ps size = false := by simp [vld, h]
theorem vld_true {ps : List (Int × Int)} {size : Int} (h : vldP ps size) : vld ps size = true := by simp [vld, h]
theorem vld_bad {ps : List (Int × Int)} {size : Int} (k : Nat) (hk : k < ps.length) (h : ¬ okP ps size k) : vld ps size = false := vld_false fun hv => h (hv.2 k hk)
theorem vld_end {ps : List (Int × Int)} {size : Int} (h : ∀ k, k < ps.length → okP ps size k) : vld ps size = decide (0 ≤ size) := by
  by_cases h0 : 0 ≤ size
  · rw [vld_true ⟨h0, h⟩]; simp [h0]
  · rw [vld_false (fun hv => h0 hv.1)]; simp [h0]
theorem ok_succ {ps : List (Int × Int)} {size : Int} {k : Nat} (h : ∀ j, j < k → okP ps size j) (h1 : okP ps size k) : ∀ j, j < k + 1 → okP ps size j := by
  intro j hj
  by_cases h2 : j < k
  · exact h j h2
  · obtain rfl : j = k := by omega
    exact h1
theorem ve_nonneg {ps : List (Int × Int)} {size : Int} : ∀ {k : Nat}, (∀ j, j < k → okP ps size j) → 0 ≤ ve ps k
  | 0, _ => Int.le_refl _
  | k + 1, h => by
    have h0 := ve_nonneg (k := k) (fun j hj => h j (by omega))
    have h1 := h k (by omega)
    unfold okP at h1
    show 0 ≤ po ps k + pl ps k
    omega
theorem ve_le {ps : List (Int × Int)} {size : Int} : ∀ {k : Nat}, (∀ j, j < k → okP ps size j) → k = 0 ∨ ve ps k ≤ size
  | 0, _ => .inl rfl
  | k + 1, h => .inr (by have h1 := h k (by omega); unfold okP at h1; show po ps k + pl ps k ≤ size; omega)

set_option maxRecDepth 20000 in
set_option maxHeartbeats 1000000 in
theorem specValid (A : Option Addr) (n c B : Nat) (ps : List (Int × Int)) (size : Int) (w : World) (hn : ps.length = n) (hr : RC w B A (pcs ps)) (hB : B ≤ w.heap.size) (hbig : n ≤ 2147483647) (hf : Fit ps)
    (hs : -9223372036854775808 ≤ size) (hs' : size ≤ 9223372036854775807) :
    Calls Try.prog 17 #[.slice A n c, .int .i64 size] w fun e w' => e = .returned (.bool (vld ps size)) ∧ Below w.heap.size w w' := by
  have HN := Lib.hid hn
  have HR := Lib.hid hr
  have HF := Lib.hid hf
  clear hn hr hf
  go_enter Try.func17, Try.ntmps17
  go_wp2
  go_loopw [5, 10] (fun v i wr => ∃ k : Nat, k ≤ n ∧ i = .int .i64 k ∧ v = .int .i64 (ve ps k) ∧ Hid (∀ j, j < k → okP ps size j) ∧ Below w.heap.size w wr) (fun _ i _ => n - (intOf i).toNat)
  case atStart => exact ⟨0, by omega, rfl, rfl, (show ∀ j, j < 0 → _ from fun j hj => by omega), Below.refl _ _⟩
  case round =>
    obtain ⟨k, hk, rfl, rfl, hok, hb⟩ := hrel
    have HB := Lib.hid hb
    by_cases hlt : k < n
    · obtain ⟨b, off, rfl, _, hc1, hc2⟩ := (HR.out.below (hb.mono hB)).piece (k := k) (by rw [HN.out]; exact hlt)
      clear hb
      obtain ⟨f1, f2, f3, f4⟩ := HF.out.at_ k
      have hv0 := ve_nonneg hok.out
      by_cases t1 : po ps k < ve ps k
      · have HE := Lib.hid (vld_bad k (by rw [HN.out]; exact hlt) (show ¬ okP ps size k by unfold okP; omega))
        go_wp2
        go_ret
        exact ⟨by rw [HE.out]; rfl, HB.out.alloc HB.out.size _⟩
      by_cases t2 : pl ps k < 0
      · have HE := Lib.hid (vld_bad k (by rw [HN.out]; exact hlt) (show ¬ okP ps size k by unfold okP; omega))
        go_wp2
        go_ret
        exact ⟨by rw [HE.out]; rfl, HB.out.alloc HB.out.size _⟩
      by_cases t3 : size < po ps k
      · have HE := Lib.hid (vld_bad k (by rw [HN.out]; exact hlt) (show ¬ okP ps size k by unfold okP; omega))
        go_wp2
        go_ret
        exact ⟨by rw [HE.out]; rfl, HB.out.alloc HB.out.size _⟩
      by_cases t4 : size - po ps k < pl ps k
      · have HE := Lib.hid (vld_bad k (by rw [HN.out]; exact hlt) (show ¬ okP ps size k by unfold okP; omega))
        go_wp2
        go_ret
        exact ⟨by rw [HE.out]; rfl, HB.out.alloc HB.out.size _⟩
      · have HE : Hid (okP ps size k) := by show _ ∧ _ ∧ _; omega
        go_wp2
        go_roundw
        case rel => exact ⟨k + 1, by omega, by go_num, rfl, ok_succ hok.out HE.out, HB.out.alloc HB.out.size _⟩
        case measure => simp [intOf]; omega
    · obtain rfl : k = n := by omega
      have HE := Lib.hid (vld_end (size := size) (fun j hj => hok.out j (by rw [← HN.out]; exact hj)))
      go_wp2
      go_ret
      exact ⟨by rw [HE.out]; rfl, HB.out⟩
theorem ve_max {ps : List (Int × Int)} {size : Int} {k : Nat} (h : ∀ j, j < k → okP ps size j) (hs : size ≤ 9223372036854775807) : ve ps k ≤ 9223372036854775807 := by
  rcases ve_le h with rfl | h
  · show (0 : Int) ≤ _
    omega
  · omega
/-- The piece before piece k. -/
def pr1 (ps : List (Int × Int)) : Nat → Int
  | 0 => 0
  | k + 1 => po ps k
def pr2 (ps : List (Int × Int)) : Nat → Int
  | 0 => 0
  | k + 1 => pl ps k
theorem ve_pr (ps : List (Int × Int)) : ∀ k, ve ps k = pr1 ps k + pr2 ps k
  | 0 => rfl
  | _ + 1 => rfl
theorem pr_bd {ps : List (Int × Int)} (hf : Fit ps) : ∀ k, -9223372036854775808 ≤ pr1 ps k ∧ pr1 ps k ≤ 9223372036854775807 ∧ -9223372036854775808 ≤ pr2 ps k ∧ pr2 ps k ≤ 9223372036854775807
  | 0 => by show -9223372036854775808 ≤ (0 : Int) ∧ (0 : Int) ≤ _ ∧ _ ≤ (0 : Int) ∧ (0 : Int) ≤ _; omega
  | k + 1 => hf.at_ k

set_option maxRecDepth 20000 in
theorem endOffset_any (a b : Int) (w : World) (h1 : -9223372036854775808 ≤ a + b) (h2 : a + b ≤ 9223372036854775807) :
    Calls Try.prog 46 #[.agg #[.int .i64 a, .int .i64 b]] w fun e w' => e = .returned (.int .i64 (a + b)) ∧ w.alloc (.cells #[.int .i64 a, .int .i64 b] 73) = w' := by
  go_enter Try.func46, Try.ntmps46
  go_wp2
  go_ret
  exact ⟨rfl, rfl⟩

theorem cell_alloc3 (w : World) (o1 o2 o3 : Obj) (b i : Nat) (h : b < w.heap.size) : (((w.alloc o1).alloc o2).alloc o3).drew.cell? ⟨b, i, none⟩ = w.cell? ⟨b, i, none⟩ := by
  show (((w.alloc o1).alloc o2).alloc o3).cell? ⟨b, i, none⟩ = _
  rw [World.cell?_alloc_lt _ _ _ (by simp; omega), World.cell?_alloc_lt _ _ _ (by simp; omega), World.cell?_alloc_lt _ _ _ (by omega)]

theorem cell_alloc2 (w : World) (o1 o2 : Obj) (b i : Nat) (h : b < w.heap.size) : ((w.alloc o1).alloc o2).drew.cell? ⟨b, i, none⟩ = w.cell? ⟨b, i, none⟩ := by
  show ((w.alloc o1).alloc o2).cell? ⟨b, i, none⟩ = _
  rw [World.cell?_alloc_lt _ _ _ (by simp; omega), World.cell?_alloc_lt _ _ _ (by omega)]

theorem zero_entry (w : World) : (zeroValue 73).run Try.prog w = .ok (.agg #[.int .i64 0, .int .i64 0]) w := by kernel_rfl

set_option maxRecDepth 20000 in
set_option maxHeartbeats 2000000 in
theorem validate_any (A : Option Addr) (n c B : Nat) (ps : List (Int × Int)) (size : Int) (w : World) (hn : ps.length = n) (hr : RC w B A (pcs ps)) (hB : B ≤ w.heap.size) (hbig : n ≤ 2147483647) (hf : Fit ps)
    (hs : -9223372036854775808 ≤ size) (hs' : size ≤ 9223372036854775807) :
    Calls Try.prog 39 #[.slice A n c, .int .i64 size] w fun e w' => e = .returned (.bool (vld ps size)) ∧ Below w.heap.size w w' := by
  have HN := Lib.hid hn
  have HR := Lib.hid hr
  have HF := Lib.hid hf
  clear hn hr hf
  by_cases hs0 : size < 0
  · have HE := Lib.hid (vld_false (ps := ps) (size := size) (fun hv => by have := hv.1; omega))
    go_enter Try.func39, Try.ntmps39
    go_wp2
    go_ret
    exact ⟨by rw [HE.out]; rfl, Below.refl _ _⟩
  have hz := zero_entry
  go_enter Try.func39, Try.ntmps39
  go_wp2
  go_loopw [12] (fun i wr => ∃ k : Nat, k ≤ n ∧ i = .int .i64 k ∧ Hid (∀ j, j < k → okP ps size j) ∧ Blk wr w.heap.size 73 [.int .i64 (pr1 ps k), .int .i64 (pr2 ps k)] ∧ Below w.heap.size w wr) (fun i _ => n - (intOf i).toNat)
  case atStart => exact ⟨0, by omega, rfl, (show ∀ j, j < 0 → _ from fun j hj => by omega), Blk.new _ _ _, (Below.refl _ _).alloc (Nat.le_refl _) _⟩
  case round =>
    obtain ⟨k, hk, rfl, hok, hblk, hb⟩ := hrel
    have HB := Lib.hid hb
    have HBL := Lib.hid hblk
    have hsz := hblk.lt
    by_cases hlt : k < n
    · obtain ⟨b, off, rfl, hbB, hc1, hc2⟩ := (HR.out.below (hb.mono hB)).piece (k := k) (by rw [HN.out]; exact hlt)
      have hp1 : wr.cell? ⟨w.heap.size, 0, none⟩ = some (.int .i64 (pr1 ps k)) := by rw [hblk.cell]; rfl
      have hp2 : wr.cell? ⟨w.heap.size, 1, none⟩ = some (.int .i64 (pr2 ps k)) := by rw [hblk.cell]; rfl
      have hf1 := hblk.frozen 0
      have hf2 := hblk.frozen 1
      clear hb hblk
      obtain ⟨f1, f2, f3, f4⟩ := HF.out.at_ k
      obtain ⟨g1, g2, g3, g4⟩ := pr_bd HF.out k
      have hv0 := ve_nonneg hok.out
      have hv1 := ve_max hok.out hs'
      rw [ve_pr] at hv0 hv1
      by_cases t1 : po ps k < 0
      · have HE := Lib.hid (vld_bad k (by rw [HN.out]; exact hlt) (show ¬ okP ps size k by unfold okP; rw [ve_pr]; omega))
        go_wp2
        go_ret
        exact ⟨by rw [HE.out]; rfl, HB.out.alloc HB.out.size _⟩
      by_cases t2 : pl ps k < 0
      · have HE := Lib.hid (vld_bad k (by rw [HN.out]; exact hlt) (show ¬ okP ps size k by unfold okP; rw [ve_pr]; omega))
        go_wp2
        go_ret
        exact ⟨by rw [HE.out]; rfl, HB.out.alloc HB.out.size _⟩
      by_cases t3 : 9223372036854775807 - pl ps k < po ps k
      · have HE := Lib.hid (vld_bad k (by rw [HN.out]; exact hlt) (show ¬ okP ps size k by unfold okP; rw [ve_pr]; omega))
        go_wp2
        go_ret
        exact ⟨by rw [HE.out]; rfl, HB.out.alloc HB.out.size _⟩
      have HB3 := Lib.hid ((HB.out.alloc (o := .cells #[.int .i64 (po ps k), .int .i64 (pl ps k)] 73) HB.out.size).alloc (o := .cells #[.int .i64 (po ps k), .int .i64 (pl ps k)] 73) (by have := HB.out.size; simp; omega))
      by_cases t4 : size < po ps k + pl ps k
      · have HE := Lib.hid (vld_bad k (by rw [HN.out]; exact hlt) (show ¬ okP ps size k by unfold okP; rw [ve_pr]; omega))
        go_wp2_with (go_at_call 46; refine (endOffset_any _ _ _ (by omega) (by omega)).mono ?_; rintro e w' ⟨rfl, rfl⟩)
        go_ret
        exact ⟨by rw [HE.out]; rfl, HB3.out⟩
      by_cases t5 : po ps k < pr1 ps k + pr2 ps k
      · have HE := Lib.hid (vld_bad k (by rw [HN.out]; exact hlt) (show ¬ okP ps size k by unfold okP; rw [ve_pr]; omega))
        go_wp2_with (go_at_call 46; refine (endOffset_any (po ps k) (pl ps k) _ (by omega) (by omega)).mono ?_; rintro e w' ⟨rfl, rfl⟩)
        go_region_held3 (fun w' => w'.cell? ⟨w.heap.size, 0, none⟩ = some (.int .i64 (pr1 ps k)) ∧ w'.cell? ⟨w.heap.size, 1, none⟩ = some (.int .i64 (pr2 ps k)) ∧ w'.cell? ⟨wr.heap.size, 0, none⟩ = some (.int .i64 (po ps k))) (refine ⟨?_, ?_, ?_⟩ <;> first | with_reducible exact (cell_alloc3 _ _ _ _ _ _ hsz).trans hp1 | with_reducible exact (cell_alloc3 _ _ _ _ _ _ hsz).trans hp2 | with_reducible exact (cell_alloc2 _ _ _ _ _ hsz).trans hp1 | with_reducible exact (cell_alloc2 _ _ _ _ _ hsz).trans hp2 | (simp [go_sem, World.cell?_alloc_past]; done))
          ((go_at_call 46; refine (endOffset_any (pr1 ps k) (pr2 ps k) _ (by omega) (by omega)).mono ?_; rintro e w' ⟨rfl, rfl⟩))
        go_wp2
        go_ret
        exact ⟨by rw [HE.out]; rfl, (HB3.out.alloc (by have := HB.out.size; simp; omega) _).drew⟩
      · have HE : Hid (okP ps size k) := by show _ ∧ _ ∧ _; rw [ve_pr]; omega
        go_wp2_with (go_at_call 46; refine (endOffset_any (po ps k) (pl ps k) _ (by omega) (by omega)).mono ?_; rintro e w' ⟨rfl, rfl⟩)
        go_region_held3 (fun w' => w'.cell? ⟨w.heap.size, 0, none⟩ = some (.int .i64 (pr1 ps k)) ∧ w'.cell? ⟨w.heap.size, 1, none⟩ = some (.int .i64 (pr2 ps k)) ∧ w'.cell? ⟨wr.heap.size, 0, none⟩ = some (.int .i64 (po ps k))) (refine ⟨?_, ?_, ?_⟩ <;> first | with_reducible exact (cell_alloc3 _ _ _ _ _ _ hsz).trans hp1 | with_reducible exact (cell_alloc3 _ _ _ _ _ _ hsz).trans hp2 | with_reducible exact (cell_alloc2 _ _ _ _ _ hsz).trans hp1 | with_reducible exact (cell_alloc2 _ _ _ _ _ hsz).trans hp2 | (simp [go_sem, World.cell?_alloc_past]; done))
          ((go_at_call 46; refine (endOffset_any (pr1 ps k) (pr2 ps k) _ (by omega) (by omega)).mono ?_; rintro e w' ⟨rfl, rfl⟩))
        have HB4 := Lib.hid ((HB3.out.alloc (o := .cells #[.int .i64 (pr1 ps k), .int .i64 (pr2 ps k)] 73) (by have := HB.out.size; simp; omega)).drew)
        have HC4 := Lib.hid ((((Blk.new wr 73 [.int .i64 (po ps k), .int .i64 (pl ps k)]).alloc (.cells #[.int .i64 (po ps k), .int .i64 (pl ps k)] 73)).alloc (.cells #[.int .i64 (pr1 ps k), .int .i64 (pr2 ps k)] 73)).drewN 1)
        have HP4 := Lib.hid ((((HBL.out.alloc (.cells #[.int .i64 (po ps k), .int .i64 (pl ps k)] 73)).alloc (.cells #[.int .i64 (po ps k), .int .i64 (pl ps k)] 73)).alloc (.cells #[.int .i64 (pr1 ps k), .int .i64 (pr2 ps k)] 73)).drewN 1)
        rename_i hheld
        clear hheld
        obtain ⟨W4, hW4⟩ : ∃ W4, W4 = (((wr.alloc (.cells #[.int .i64 (po ps k), .int .i64 (pl ps k)] 73)).alloc (.cells #[.int .i64 (po ps k), .int .i64 (pl ps k)] 73)).alloc (.cells #[.int .i64 (pr1 ps k), .int .i64 (pr2 ps k)] 73)).drew := ⟨_, rfl⟩
        change Hid (Below w.heap.size w (((wr.alloc (.cells #[.int .i64 (po ps k), .int .i64 (pl ps k)] 73)).alloc (.cells #[.int .i64 (po ps k), .int .i64 (pl ps k)] 73)).alloc (.cells #[.int .i64 (pr1 ps k), .int .i64 (pr2 ps k)] 73)).drew) at HB4
        change Hid (Blk (((wr.alloc (.cells #[.int .i64 (po ps k), .int .i64 (pl ps k)] 73)).alloc (.cells #[.int .i64 (po ps k), .int .i64 (pl ps k)] 73)).alloc (.cells #[.int .i64 (pr1 ps k), .int .i64 (pr2 ps k)] 73)).drew _ _ _) at HC4
        change Hid (Blk (((wr.alloc (.cells #[.int .i64 (po ps k), .int .i64 (pl ps k)] 73)).alloc (.cells #[.int .i64 (po ps k), .int .i64 (pl ps k)] 73)).alloc (.cells #[.int .i64 (pr1 ps k), .int .i64 (pr2 ps k)] 73)).drew _ _ _) at HP4
        rw [← hW4] at HB4 HC4 HP4 ⊢
        clear hW4 hc1 hc2 hp1 hp2 hf1 hf2
        have hq1 : W4.cell? ⟨wr.heap.size, 0, none⟩ = some (.int .i64 (po ps k)) := by rw [HC4.out.cell]; rfl
        have hq2 : W4.cell? ⟨wr.heap.size, 1, none⟩ = some (.int .i64 (pl ps k)) := by rw [HC4.out.cell]; rfl
        have hr1 : W4.cell? ⟨w.heap.size, 0, none⟩ = some (.int .i64 (pr1 ps k)) := by rw [HP4.out.cell]; rfl
        have hr2 : W4.cell? ⟨w.heap.size, 1, none⟩ = some (.int .i64 (pr2 ps k)) := by rw [HP4.out.cell]; rfl
        have hw1 := HP4.out.frozen 0
        have hw2 := HP4.out.frozen 1
        go_wp2
        go_roundw
        case rel => exact ⟨k + 1, by omega, by go_num, ok_succ hok.out HE.out, (HP4.out.set_ 0 _).set_ 1 _, (HB4.out.setCell (p := ⟨w.heap.size, 0, none⟩) (Nat.le_refl _) _).setCell (p := ⟨w.heap.size, 1, none⟩) (Nat.le_refl _) _⟩
        case measure => simp [intOf]; omega
    · obtain rfl : k = n := by omega
      have HE := Lib.hid (vld_true (ps := ps) (size := size) ⟨by omega, fun j hj => hok.out j (by rw [← HN.out]; exact hj)⟩)
      clear hb hblk
      go_wp2
      go_ret
      exact ⟨by rw [HE.out]; rfl, HB.out⟩

set_option maxRecDepth 20000 in
set_option maxHeartbeats 400000 in
theorem zzValid_any (A : Option Addr) (n c B : Nat) (ps : List (Int × Int)) (size : Int) (w : World) (hn : ps.length = n) (hr : RC w B A (pcs ps)) (hB : B ≤ w.heap.size) (hbig : n ≤ 2147483647) (hf : Fit ps)
    (hs : -9223372036854775808 ≤ size) (hs' : size ≤ 9223372036854775807) :
    Calls Try.prog 29 #[.slice A n c, .int .i64 size] w fun e w' => e = .returned (.bool (vld ps size)) ∧ Below w.heap.size w w' := by
  have H := Lib.hid (zzIn_any A n c B ps w hn hr hB hbig)
  have HN := Lib.hid hn
  have HF := Lib.hid hf
  clear hn hr hf
  go_enter Try.func29, Try.ntmps29
  go_wp2_with fail
  refine H.out.mono ?_
  rintro e w1 ⟨v, rfl, hown, hb1⟩
  obtain ⟨A', c', rfl, _, _, _⟩ := own_form hown
  have H2 := Lib.hid (validate_any A' n c' w1.heap.size ps size w1 HN.out (RC.of_own hown) (Nat.le_refl _) hbig HF.out hs hs')
  have HB1 := Lib.hid hb1
  clear hown hb1
  go_wp2_with (go_at_call 39; refine H2.out.mono ?_; rintro e w2 ⟨rfl, hb2⟩)
  go_ret
  exact ⟨rfl, HB1.out.trans (hb2.mono HB1.out.size)⟩

set_option maxRecDepth 20000 in
set_option maxHeartbeats 400000 in
theorem implValid_any (A : Option Addr) (n c B : Nat) (ps : List (Int × Int)) (size : Int) (w : World) (hn : ps.length = n) (hr : RC w B A (pcs ps)) (hB : B ≤ w.heap.size) (hbig : n ≤ 2147483647) (hf : Fit ps)
    (hs : -9223372036854775808 ≤ size) (hs' : size ≤ 9223372036854775807) :
    Calls Try.prog 16 #[.slice A n c, .int .i64 size] w fun e w' => e = .returned (.bool (vld ps size)) ∧ Below w.heap.size w w' := by
  have H := Lib.hid (implPieces_any A n c B ps w hn hr hB hbig)
  have HN := Lib.hid hn
  have HF := Lib.hid hf
  clear hn hr hf
  go_enter Try.func16, Try.ntmps16
  go_wp2_with fail
  refine H.out.mono ?_
  rintro e w1 ⟨v, rfl, hown, hb1⟩
  obtain ⟨A', c', rfl, _, _, _⟩ := own_form hown
  have H2 := Lib.hid (zzValid_any A' n c' w1.heap.size ps size w1 HN.out (RC.of_own hown) (Nat.le_refl _) hbig HF.out hs hs')
  have HB1 := Lib.hid hb1
  clear hown hb1
  go_wp2_with (go_at_call 29; refine H2.out.mono ?_; rintro e w2 ⟨rfl, hb2⟩)
  go_ret
  exact ⟨rfl, HB1.out.trans (hb2.mono HB1.out.size)⟩

theorem pinfo_spec : (Try.prog.info? 33).map (fun i => (i.zero, i.size, i.bytes)) = some (some (.agg #[.int .i64 0, .int .i64 0]), 2, 16) := by kernel_rfl

set_option maxRecDepth 20000 in
set_option maxHeartbeats 800000 in
theorem fnValidSparse_walk (A : Option Addr) (n c : Nat) (ps : List (Int × Int)) (size : Int) (w : World) (hn : ps.length = n) (hr : RC w w.heap.size A (pcs ps)) (hm : n ≤ 9223372036854775807) (hf : Fit ps)
    (hs : -9223372036854775808 ≤ size) (hs' : size ≤ 9223372036854775807) :
    Calls Try.prog 6 #[.slice A n c, .int .i64 size] w fun e w' => e = .returned (.bool true) ∧ Below w.heap.size w w' := by
  have HN := Lib.hid hn
  have HR := Lib.hid hr
  have HF := Lib.hid hf
  clear hn hr hf
  by_cases hbig : 2147483647 < n
  · go_enter Try.func6, Try.ntmps6
    go_wp2
    go_ret
    exact ⟨rfl, Below.refl _ _⟩
  · go_enter Try.func6, Try.ntmps6
    go_wp2
    go_loopw [5, 13] (fun v i wr => ∃ k : Nat, k ≤ n ∧ i = .int .i64 k ∧ wr.ownsRow w.heap.size 33 2 v k (pcs (ps.take k)) ∧ Below w.heap.size w wr) (fun _ i _ => n - (intOf i).toNat)
    case atStart => exact ⟨0, by omega, rfl, World.ownsRow_nil _ _ _ _, Below.refl _ _⟩
    case round =>
      obtain ⟨k, hk, rfl, hown, hb⟩ := hrel
      by_cases hlt : k < n
      · obtain ⟨b, off, rfl, _, hc1, hc2⟩ := (HR.out.below hb).piece (k := k) (by rw [HN.out]; exact hlt)
        have HO := Lib.hid hown
        have HB := Lib.hid hb
        clear hown hb
        have HB2 := Lib.hid ((HB.out.alloc (o := .cells #[.int .i64 (po ps k), .int .i64 (pl ps k)] 32) HB.out.size).alloc (o := .cells #[.int .i64 (po ps k), .int .i64 (pl ps k)] 33) (by have := HB.out.size; simp; omega))
        go_wp2_with (refine wpList_append_rc (o := ⟨some 20, _, _, _, _, _⟩) _ rfl (.tmp 17) (.tmp 19) _ rfl w.heap.size 33 _ 2 16 Try.underlying30 pinfo_spec rfl (by omega) _ k _ rfl ((HO.out.alloc _).alloc _) _ 1 1 _ _ rfl rfl (rc_new2 _ _ _ _) (two_one _ _) (by omega) (by omega) (by have := HB.out.size; simp; omega) ?_)
        intro v' w1 h1 h2 h3
        have HP := Lib.hid (pcs_take ps k (by rw [HN.out]; exact hlt))
        go_wp2
        go_roundw
        case rel => exact ⟨k + 1, by omega, by go_num, by rw [HP.out]; exact h1.out, HB2.out.grown h2.out (by have := HB.out.size; simp; omega) (fun g hg => (HO.out.lt g hg).1)⟩
        case measure => simp [intOf]; omega
      · obtain rfl : k = n := by omega
        have HT : Hid (ps.take k = ps) := by show _ = _; rw [List.take_of_length_le]; rw [HN.out]; exact Nat.le_refl _
        rw [HT.out] at hown
        obtain ⟨A', c', rfl, _, _, _⟩ := own_form hown
        have HRO := Lib.hid (RC.of_own hown)
        have HB := Lib.hid hb
        have HR1 := Lib.hid (HR.out.below hb)
        clear hown hb
        go_wp2_with (first
          | (go_at_call 16; refine (implValid_any A k c w.heap.size ps size _ HN.out HR1.out HB.out.size (by omega) HF.out hs hs').mono ?_; rintro e w2 ⟨rfl, hb2⟩; have HB2 := Lib.hid hb2; clear hb2)
          | (go_at_call 17; refine (specValid A' k c' wr.heap.size ps size _ HN.out (HRO.out.below HB2.out) HB2.out.size (by omega) HF.out hs hs').mono ?_; rintro e w3 ⟨rfl, hb3⟩))
        go_ret
        exact ⟨rfl, (HB.out.trans (HB2.out.mono HB.out.size)).trans (hb3.mono (Nat.le_trans HB.out.size HB2.out.size))⟩
end Go.Proofs.Ytiahifohkhdmdaa
