/- Walks for FnSparseRead: spec.Holes, spec.Expand, impl.SparseRead. -/
import Derived.Test.YtiahifohkhdmdaaDoorSp6
import Derived.Test.YtiahifohkhdmdaaDoorSpHol
import Derived.Test.YtiahifohkhdmdaaDoorR
namespace Go.Proofs.YtiahifohkhdmdaaDoor
open Go.RowKit Go.PlainAid
set_option linter.unusedVariables false

theorem pinfo_sp : (Tryd.prog.info? 47).map (fun i => (i.zero, i.size, i.bytes)) = some (some (.agg #[.int .i64 0, .int .i64 0]), 2, 16) := by kernel_rfl
theorem ve_range {ps : List (Int × Int)} {size : Int} (h : ∀ j, j < ps.length → ve ps j ≤ po ps j ∧ 1 ≤ pl ps j) (he : ve ps ps.length ≤ size) : ∀ k, k ≤ ps.length → 0 ≤ ve ps k ∧ ve ps k ≤ size := by
  have up : ∀ k, k ≤ ps.length → 0 ≤ ve ps k := by
    intro k
    induction k with
    | zero => intro _; exact Int.le_refl _
    | succ k ih =>
      intro hk
      have h1 := ih (by omega)
      have h2 := h k (by omega)
      show 0 ≤ po ps k + pl ps k
      omega
  have down : ∀ m k, k + m = ps.length → ve ps k ≤ size := by
    intro m
    induction m with
    | zero => intro k hk; obtain rfl : k = ps.length := by omega
              exact he
    | succ m ih =>
      intro k hk
      have h1 := ih (k + 1) (by omega)
      have h2 := h k (by omega)
      have h3 : ve ps (k + 1) = po ps k + pl ps k := rfl
      omega
  intro k hk
  exact ⟨up k hk, down (ps.length - k) k (by omega)⟩
theorem rc_new1 (w : World) (xs : List Value) (t : TypeId) : RC (w.alloc (.cells xs.toArray t)) (w.heap.size + 1) (some ⟨w.heap.size, 0, none⟩) xs := RC.of_blk (Blk.new w t xs)

set_option maxRecDepth 20000 in
set_option maxHeartbeats 1600000 in
theorem specHoles (A : Option Addr) (n c B : Nat) (ps : List (Int × Int)) (size : Int) (w : World) (hn : ps.length = n) (hr : RC w B A (pcs ps)) (hB : B ≤ w.heap.size) (hbig : n ≤ 1000)
    (hok : ∀ j, j < ps.length → ve ps j ≤ po ps j ∧ 1 ≤ pl ps j) (he : ve ps ps.length ≤ size) (hs : size ≤ 1099511627776) :
    Calls Tryd.prog 18 #[.slice A n c, .int .i64 size] w (Made 47 (hol size ps 0).length (hol size ps 0) w) := by
  have HN := Lib.hid hn
  have HR := Lib.hid hr
  have HV := Lib.hid (ve_range hok he)
  have HOK := Lib.hid hok
  clear hn hr hok he
  go_enter Tryd.func18, Tryd.ntmps18
  go_wp2
  go_loopw [5, 6, 11] (fun v at_ i wr => ∃ k : Nat, k ≤ n ∧ i = .int .i64 k ∧ at_ = .int .i64 (ve ps k) ∧ wr.ownsRow w.heap.size 47 2 v (hpre ps k).length (pcs (hpre ps k)) ∧ Below w.heap.size w wr) (fun _ _ i _ => n - (intOf i).toNat)
  case atStart => exact ⟨0, by omega, rfl, rfl, World.ownsRow_nil _ _ _ _, Below.refl _ _⟩
  case round =>
    obtain ⟨k, hk, rfl, rfl, hown, hb⟩ := hrel
    have HO := Lib.hid hown
    have HB := Lib.hid hb
    obtain ⟨v1, v2⟩ := HV.out k (by rw [HN.out]; exact hk)
    have hlen := hpre_len ps k
    by_cases hlt : k < n
    · obtain ⟨b, off, rfl, _, hc1, hc2⟩ := (HR.out.below (hb.mono hB)).piece (k := k) (by rw [HN.out]; exact hlt)
      obtain ⟨o1, o2⟩ := HOK.out k (by rw [HN.out]; exact hlt)
      obtain ⟨v3, v4⟩ := HV.out (k + 1) (by rw [HN.out]; omega)
      have v5 : ve ps (k + 1) = po ps k + pl ps k := rfl
      rw [v5] at v3 v4
      have HV5 := Lib.hid v5
      clear hown hb v5
      have HB1 := Lib.hid (HB.out.alloc (o := .cells #[.int .i64 (po ps k), .int .i64 (pl ps k)] 47) HB.out.size)
      by_cases hgt : ve ps k < po ps k
      · have HP : Hid (hpre ps (k + 1) = hpre ps k ++ [(ve ps k, po ps k - ve ps k)]) := Lib.hid (by simp [hpre, hgt])
        have HB2 := Lib.hid (HB1.out.alloc (o := .cells #[.int .i64 (ve ps k), .int .i64 (po ps k - ve ps k)] 47) (by have := HB.out.size; simp; omega))
        go_wp2_with (refine wpList_append_rc (o := ⟨some 27, _, _, _, _, _⟩) _ rfl (.tmp 19) (.tmp 26) _ rfl w.heap.size 47 _ 2 16 Tryd.underlying36 pinfo_sp rfl (by omega) _ _ _ rfl ((HO.out.alloc _).alloc _) _ 1 1 _ _ rfl rfl (rc_new2 _ _ _ _) (two_one _ _) (by omega) (by omega) (by have := HB.out.size; simp; omega) ?_)
        intro v' w1 h1 h2 h3
        have HBW := Lib.hid (HB2.out.grown h2.out (by have := HB.out.size; simp; omega) (fun g hg => (HO.out.lt g hg).1))
        have HC : Hid (Blk w1 wr.heap.size 47 [.int .i64 (po ps k), .int .i64 (pl ps k)]) := Lib.hid (((Blk.new wr _ _).alloc _).grown h2.out (fun hg => by have := (HO.out.lt _ hg.symm).2; omega))
        have hd0 : w1.cell? ⟨wr.heap.size, 0, none⟩ = some (.int .i64 (po ps k)) := by rw [HC.out.cell]; rfl
        have hd1 : w1.cell? ⟨wr.heap.size, 1, none⟩ = some (.int .i64 (pl ps k)) := by rw [HC.out.cell]; rfl
        have H1 : Hid (w1.ownsRow w.heap.size 47 2 v' (hpre ps (k + 1)).length (pcs (hpre ps (k + 1)))) := Lib.hid (by rw [HP.out, pcs_append, List.length_append]; exact h1.out)
        clear h1 h2 h3
        go_wp2
        go_roundw
        case rel => exact ⟨k + 1, by omega, by go_num, rfl, H1.out, HBW.out⟩
        case measure => simp [intOf]; omega
      · have HP : Hid (hpre ps (k + 1) = hpre ps k) := Lib.hid (by simp [hpre, hgt])
        go_wp2
        go_roundw
        case rel => exact ⟨k + 1, by omega, by go_num, rfl, by rw [HP.out]; exact HO.out.alloc _, HB1.out⟩
        case measure => simp [intOf]; omega
    · obtain rfl : k = n := by omega
      clear hown hb
      have HP : Hid (hol size ps 0 = hpre ps k ++ [(ve ps k, size - ve ps k)]) := Lib.hid (by rw [← HN.out]; exact (hpre_end size ps).symm)
      have HB1 := Lib.hid (HB.out.alloc (o := .cells #[.int .i64 (ve ps k), .int .i64 (size - ve ps k)] 47) HB.out.size)
      go_wp2_with (refine wpList_append_rc (o := ⟨some 41, _, _, _, _, _⟩) _ rfl (.tmp 34) (.tmp 40) _ rfl w.heap.size 47 _ 2 16 Tryd.underlying36 pinfo_sp rfl (by omega) _ _ _ rfl (HO.out.alloc _) _ 1 1 _ _ rfl rfl (rc_new1 _ _ _) (two_one _ _) (by omega) (by omega) (by have := HB.out.size; simp; omega) ?_)
      intro v' w1 h1 h2 h3
      have HBW := Lib.hid (HB1.out.grown h2.out (by have := HB.out.size; simp; omega) (fun g hg => (HO.out.lt g hg).1))
      have H1 : Hid (w1.ownsRow w.heap.size 47 2 v' (hol size ps 0).length (pcs (hol size ps 0))) := Lib.hid (by rw [HP.out, pcs_append, List.length_append]; exact h1.out)
      clear h1 h2 h3
      go_wp2
      go_ret
      exact ⟨_, rfl, H1.out, HBW.out⟩
end Go.Proofs.YtiahifohkhdmdaaDoor
