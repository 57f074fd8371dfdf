/- spec.Block. -/
import Derived.Test.YtepeehjajhehfaaGreatDoorBlkU
namespace Go.Proofs.YtepeehjajhehfaaGreatDoor
open Go.RowKit Go.PlainAid
set_option linter.unusedVariables false

def BlockR (b : Bool) (w : World) (e : Ending) (w' : World) : Prop := ∃ (g : Nat) (bs : List UInt8), w.heap.size ≤ g ∧ e = .returned (.slice (some ⟨g, 0, none⟩) 512 512) ∧ BlkOk b bs ∧ bs.length = 512 ∧ Blk w' g 5 (bys bs) ∧ Below w.heap.size w w'
theorem chBlock (b : Bool) (Cb k : Nat) (h : Hd) (w : World) (hC : Ch Cb k w) (hk : k ≤ 100) (ok : h.Ok) (hn : h.name.size ≤ 100) (hf : h.fm = if b then 3 else 1) :
    Calls Tryz.prog 29 #[.pointer (some ⟨Cb, 0, none⟩), h.val, .int .i64 h.fm] w (BlockP Cb b w) := by
  cases b with
  | true => rw [hf]; exact chBlockG Cb k h w hC hk ok hn
  | false => rw [hf]; exact chBlockU Cb k h w hC hk ok hn
theorem second_blk (w : World) (o : Obj) (T : TypeId) (xs : List Value) : Blk ((w.alloc o).alloc (.cells xs.toArray T)) (w.heap.size + 1) T xs := by
  have h := Blk.new (w.alloc o) T xs
  have e : (w.alloc o).heap.size = w.heap.size + 1 := by simp
  rwa [e] at h
theorem two_al (w : World) (o1 o2 : Obj) : Below w.heap.size w ((w.alloc o1).alloc o2) := ((Below.refl _ w).alloc (Nat.le_refl _) _).alloc (by simp) _
set_option maxRecDepth 20000 in
set_option maxHeartbeats 1600000 in
theorem specBlock (b : Bool) (h : Hd) (A : Option Addr) (n c : Nat) (ns : List Int) (w : World) (ok : h.Ok) (hn : h.name.size ≤ 100) (hf : h.fm = if b then 3 else 1) (hl : ns.length = n) (hn2 : n ≤ 2147483647) (hnc : n ≤ c) (hr : RC w w.heap.size A (nums ns)) (hs : Small ns) :
    Calls Tryz.prog 8 #[h.val, .slice A n c] w (BlockR b w) := by
  have HCALL : Hid (∀ w2, Below w.heap.size w w2 → Blk w2 (w.heap.size + 1) 64 [.slice A n c, .int .i64 0] → Calls Tryz.prog 29 #[.pointer (some ⟨w.heap.size + 1, 0, none⟩), h.val, .int .i64 h.fm] w2 (BlockP (w.heap.size + 1) b w2)) := Lib.hid (by
    intro w2 hb hB
    refine chBlock b (w.heap.size + 1) 0 h w2 ⟨A, n, c, ns, hB, hl, hn2, hnc, (hr.below hb).more (by omega), hs, fun hp ad e => ?_⟩ (by omega) ok hn hf
    obtain ⟨b0, o0, hA, hlt, _⟩ := hr (by rw [length_nums, hl]; exact hp)
    rw [hA] at e
    injection e with e
    rw [← e]
    show b0 < _
    omega)
  unfold Hd.val at HCALL ⊢
  have HB1 : Hid (Blk ((w.alloc (.cells h.arr 32)).alloc (.cells #[.slice A n c, .int .i64 0] 64)) w.heap.size 32 h.cells) := Lib.hid ((h.blk w _).alloc _)
  have HB2 : Hid (Blk ((w.alloc (.cells h.arr 32)).alloc (.cells #[.slice A n c, .int .i64 0] 64)) (w.heap.size + 1) 64 [.slice A n c, .int .i64 0]) := Lib.hid (second_blk w _ _ _)
  have HW2 : Hid (Below w.heap.size w ((w.alloc (.cells h.arr 32)).alloc (.cells #[.slice A n c, .int .i64 0] 64))) := Lib.hid (two_al w _ _)
  clear hr hs hf hl ok
  go_enter Tryz.func8, Tryz.ntmps8
  go_wp2_with (refine wpList_load_row (o := ⟨some 10, _, _, _, _, _⟩) rfl 32 (.tmp 2) rfl w.heap.size rfl 32 h.arr (0, 0) _ HB1.out Tryz.underlying32 rfl h.size_ ?_; generalize (w.alloc (.cells h.arr 32)).alloc (.cells #[.slice A n c, .int .i64 0] 64) = w2 at HB1 HB2 HW2 ⊢; have kf : w2.cell? ⟨w.heap.size, 20, none⟩ = some (.int .i64 h.fm) := HB1.out.cell 20)
  refine (HCALL.out w2 HW2.out HB2.out).mono ?_
  rintro e w3 ⟨g, bs, hg, rfl, hok, hl, hb, hf⟩
  have HR : Hid (BlockR b w (.returned (.slice (some ⟨g, 0, none⟩) 512 512)) w3) := Lib.hid ⟨g, bs, Nat.le_trans HW2.out.size hg, rfl, hok, hl, hb, HW2.out.trans (hf.below (fun j hj => by rw [List.mem_singleton.1 hj]; exact Nat.le_succ _) HW2.out.size)⟩
  clear hok hl hb hf hg HCALL
  go_wp2
  go_ret
  exact HR.out
end Go.Proofs.YtepeehjajhehfaaGreatDoor
