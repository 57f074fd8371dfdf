/- Walks of the functions that align pieces to blocks of 512 bytes. -/
import Derived.Test.YtiahifohkhdmdaaR
import Derived.Test.YtiahifohkhdmdaaValid
namespace Go.Proofs.Ytiahifohkhdmdaa
open Go.RowKit

/-- What is left of one piece. -/
def alg1 (size : Int) (p : Int × Int) : List (Int × Int) :=
  if p.1 + (-p.1) % 512 < (if p.1 + p.2 = size then size else p.1 + p.2 - (p.1 + p.2) % 512) then
    [(p.1 + (-p.1) % 512, (if p.1 + p.2 = size then size else p.1 + p.2 - (p.1 + p.2) % 512) - (p.1 + (-p.1) % 512))] else []
def alg (size : Int) (ps : List (Int × Int)) : List (Int × Int) := ps.flatMap (alg1 size)
theorem alg1_len (size : Int) (p : Int × Int) : (alg1 size p).length ≤ 1 := by
  unfold alg1
  by_cases h : p.1 + (-p.1) % 512 < (if p.1 + p.2 = size then size else p.1 + p.2 - (p.1 + p.2) % 512)
  · rw [if_pos h]; exact Nat.le_refl _
  · rw [if_neg h]; exact Nat.zero_le _
theorem alg_take (size : Int) (ps : List (Int × Int)) (k : Nat) (h : k < ps.length) : alg size (ps.take (k + 1)) = alg size (ps.take k) ++ alg1 size (po ps k, pl ps k) := by
  rw [take_piece ps k h]
  simp [alg, List.flatMap_append]
theorem alg_len (size : Int) : ∀ ps : List (Int × Int), (alg size ps).length ≤ ps.length
  | [] => Nat.le_refl _
  | p :: ps => by
    have h1 := alg1_len size p
    have h2 := alg_len size ps
    simp only [alg, List.flatMap_cons, List.length_append, List.length_cons] at *
    omega

set_option maxRecDepth 20000 in
theorem blockPadding_any (a : Int) (w : World) (h1 : -4611686018427387904 ≤ a) (h2 : a ≤ 4611686018427387904) :
    Calls Try.prog 47 #[.int .i64 a] w fun e w' => e = .returned (.int .i64 ((-a) % 512)) ∧ w = w' := by
  have hx := i64_and_511 (-a)
  go_enter Try.func47, Try.ntmps47
  go_wp2
  go_ret
  exact ⟨rfl, rfl⟩

theorem pinfo_entry : (Try.prog.info? 73).map (fun i => (i.zero, i.size, i.bytes)) = some (some (.agg #[.int .i64 0, .int .i64 0]), 2, 16) := by kernel_rfl

/-- Numbers that are far from the ends of int64. -/
def Near (ps : List (Int × Int)) : Prop := ∀ p ∈ ps, 0 ≤ p.1 ∧ 0 ≤ p.2 ∧ p.1 + p.2 ≤ 1099511627776
theorem Near.at_ {ps : List (Int × Int)} (h : Near ps) (k : Nat) : 0 ≤ po ps k ∧ 0 ≤ pl ps k ∧ po ps k + pl ps k ≤ 1099511627776 := by
  by_cases hk : k < ps.length
  · have := h ps[k] (List.getElem_mem hk)
    simpa [po, pl, List.getD, hk] using this
  · simp [po, pl, List.getD, hk]

/-- The row in which a list of pieces is worked on in place: its first entries are the new list, those from k on the old ones. -/
structure Work (w : World) (g : Nat) (e : TypeId) (cap : Nat) (new old : List (Int × Int)) (k : Nat) (L : List Value) : Prop where
  blk : Blk w g e L
  len : L.length = cap * 2
  new_ : L.take (new.length * 2) = pcs new
  le : new.length ≤ k
  old_ : ∀ i, k * 2 ≤ i → i < old.length * 2 → L[i]? = (pcs old)[i]?
theorem Work.cells {w : World} {g : Nat} {e : TypeId} {cap : Nat} {new old : List (Int × Int)} {k : Nat} {L : List Value} (h : Work w g e cap new old k L) (hk : k < old.length) :
    w.cell? ⟨g, k * 2, none⟩ = some (.int .i64 (po old k)) ∧ w.cell? ⟨g, k * 2 + 1, none⟩ = some (.int .i64 (pl old k)) := by
  rw [h.blk.cell, h.blk.cell, h.old_ _ (by omega) (by omega), h.old_ _ (by omega) (by omega), pcs_get1 old k hk, pcs_get2 old k hk]
  exact ⟨rfl, rfl⟩
theorem Work.skip {w w' : World} {g : Nat} {e : TypeId} {cap : Nat} {new old : List (Int × Int)} {k : Nat} {L : List Value} (h : Work w g e cap new old k L) (hb : Blk w' g e L) : Work w' g e cap new old (k + 1) L :=
  ⟨hb, h.len, h.new_, by have := h.le; omega, fun i h1 h2 => h.old_ i (by omega) h2⟩
theorem Work.push {w w' : World} {g : Nat} {e : TypeId} {cap : Nat} {new old : List (Int × Int)} {k : Nat} {L : List Value} (h : Work w g e cap new old k L) (hk : k < cap) (a b : Int)
    (hb : Blk w' g e (splice L (new.length * 2) [.int .i64 a, .int .i64 b])) : Work w' g e cap (new ++ [(a, b)]) old (k + 1) (splice L (new.length * 2) [.int .i64 a, .int .i64 b]) := by
  have hle := h.le
  have hln := h.len
  have hfit : new.length * 2 + [Value.int .i64 a, Value.int .i64 b].length ≤ L.length := by rw [hln]; simp; omega
  refine ⟨hb, ?_, ?_, by simp; omega, fun i h1 h2 => ?_⟩
  · rw [length_splice' _ _ _ hfit, hln]
  · have e1 : (new ++ [(a, b)]).length * 2 = new.length * 2 + [Value.int .i64 a, Value.int .i64 b].length := by simp; omega
    rw [e1, splice_lo _ _ _ (by omega), h.new_, pcs_append]
    rfl
  · rw [splice_hi _ _ _ hfit i (by simp; omega)]
    exact h.old_ i (by omega) h2
theorem Work.own {w : World} {g : Nat} {e : TypeId} {cap base : Nat} {new old : List (Int × Int)} {k : Nat} {L : List Value} (h : Work w g e cap new old k L) (hk : k ≤ cap) (hcap : cap ≤ maxLen) (hb : base ≤ g) :
    w.ownsRow base e 2 (.slice (some ⟨g, 0, none⟩) new.length cap) new.length (pcs new) :=
  ⟨length_pcs new, .inr ⟨g, cap, L.toArray, rfl, hb, h.blk, by have := h.le; omega, hcap, by simpa using h.len, by simpa using h.new_⟩⟩
theorem Work.start {w : World} {g : Nat} {e : TypeId} {cap base n : Nat} {old : List (Int × Int)} (h : w.ownsRow base e 2 (.slice (some ⟨g, 0, none⟩) n cap) n (pcs old)) (hn : old.length = n) :
    base ≤ g ∧ n ≤ cap ∧ cap ≤ maxLen ∧ ∃ L, Work w g e cap [] old 0 L := by
  rcases h.2 with ⟨h1, _⟩ | ⟨g', cap', cur, hv, hbg, hg, hnc, hcm, hsz, ht⟩
  · cases h1
  · injection hv with h1 h2 h3
    injection h1 with h1
    injection h1 with h1 _ _
    subst h1 h3
    refine ⟨hbg, hnc, hcm, cur.toList, hg, by simpa using hsz, rfl, Nat.le_refl _, fun i _ hi => ?_⟩
    rw [← ht, List.getElem?_take_of_lt (by omega)]

theorem gb_alloc {a w : World} {row : Option Nat} (h : a.grownBy w row) (o : Obj) : a.grownBy (w.alloc o) row :=
  ⟨h.os, h.tape, h.output, Nat.le_trans h.size (by simp), fun i hi hne => (Below.heap_alloc w o i (Nat.lt_of_lt_of_le hi h.size)).trans (h.block i hi hne)⟩
theorem gb_drew {a w : World} {row : Option Nat} (h : a.grownBy w row) : a.grownBy w.drew row := ⟨h.os, h.tape, h.output, h.size, h.block⟩
theorem gb_trans {a b c : World} {row : Option Nat} (h : a.grownBy b row) (k : b.grownBy c row) : a.grownBy c row :=
  ⟨k.os.trans h.os, k.tape.trans h.tape, k.output.trans h.output, Nat.le_trans h.size k.size, fun i hi hne => (k.block i (Nat.lt_of_lt_of_le hi h.size) hne).trans (h.block i hi hne)⟩

set_option maxRecDepth 20000 in
set_option maxHeartbeats 2000000 in
theorem align_some (g n c base : Nat) (ps : List (Int × Int)) (size : Int) (w : World) (hn : ps.length = n) (how : w.ownsRow base 73 2 (.slice (some ⟨g, 0, none⟩) n c) n (pcs ps)) (hbig : n ≤ 2147483647) (hnear : Near ps) :
    Calls Try.prog 42 #[.slice (some ⟨g, 0, none⟩) n c, .int .i64 size] w fun e w' =>
      e = .returned (.slice (some ⟨g, 0, none⟩) (alg size ps).length c) ∧ w'.ownsRow base 73 2 (.slice (some ⟨g, 0, none⟩) (alg size ps).length c) (alg size ps).length (pcs (alg size ps)) ∧ w.grownBy w' (some g) := by
  obtain ⟨hbg, hnc, hcm, L, hW⟩ := Work.start how hn
  have hgl := hW.blk.lt
  have HN := Lib.hid hn
  have HE := Lib.hid hnear
  have HW0 : Hid (∃ L, Work w g 73 c (alg size (ps.take 0)) ps 0 L) := ⟨L, hW⟩
  have HCM := Lib.hid hcm
  have HALL : Hid (alg size (ps.take n) = alg size ps) := by show _ = _; rw [List.take_of_length_le (by omega)]
  clear hn how hnear hW hcm
  go_enter Try.func42, Try.ntmps42
  go_wp2
  go_loopw [5, 14] (fun v i wr => ∃ k : Nat, k ≤ n ∧ i = .int .i64 k ∧ v = .slice (some ⟨g, 0, none⟩) (alg size (ps.take k)).length c ∧ Hid (∃ L, Work wr g 73 c (alg size (ps.take k)) ps k L) ∧ Hid (w.grownBy wr (some g))) (fun _ i _ => n - (intOf i).toNat)
  case atStart => exact ⟨0, by omega, rfl, rfl, HW0, World.grownBy.refl _ _⟩
  case round =>
    obtain ⟨k, hk, rfl, rfl, hWk, hgk⟩ := hrel
    obtain ⟨L, hW⟩ := hWk.out
    by_cases hlt : k < n
    · obtain ⟨hc1, hc2⟩ := hW.cells (by rw [HN.out]; exact hlt)
      obtain ⟨f1, f2, f3⟩ := HE.out.at_ k
      have hgs : g < wr.heap.size := hW.blk.lt
      have hb4 := Lib.hid ((((hW.blk.alloc (.cells #[.int .i64 (po ps k), .int .i64 (pl ps k)] 73)).alloc (.cells #[.int .i64 (po ps k), .int .i64 (pl ps k)] 73))).drewN 1)
      have hg4 := Lib.hid (gb_drew (gb_alloc (gb_alloc hgk.out (.cells #[.int .i64 (po ps k), .int .i64 (pl ps k)] 73)) (.cells #[.int .i64 (po ps k), .int .i64 (pl ps k)] 73)))
      have HWK := Lib.hid hW
      clear hW hWk hgk
      go_wp2
      go_region_held3 (fun w' => w'.cell? ⟨wr.heap.size, 0, none⟩ = some (.int .i64 (po ps k)) ∧ w'.cell? ⟨wr.heap.size, 1, none⟩ = some (.int .i64 (pl ps k))) (refine ⟨?_, ?_⟩ <;> (simp [go_sem, World.cell?_alloc_past]; done))
        ((go_at_call 46; refine (endOffset_any (po ps k) (pl ps k) _ (by omega) (by omega)).mono ?_; rintro e w' ⟨rfl, rfl⟩))
      rename_i hheld
      clear hheld
      change Hid (Blk ((wr.alloc (.cells #[.int .i64 (po ps k), .int .i64 (pl ps k)] 73)).alloc (.cells #[.int .i64 (po ps k), .int .i64 (pl ps k)] 73)).drew _ _ _) at hb4
      obtain ⟨W4, hW4⟩ : ∃ W4, W4 = ((wr.alloc (.cells #[.int .i64 (po ps k), .int .i64 (pl ps k)] 73)).alloc (.cells #[.int .i64 (po ps k), .int .i64 (pl ps k)] 73)).drew := ⟨_, rfl⟩
      rw [← hW4] at hb4 hg4 ⊢
      clear hW4 hc1 hc2
      obtain ⟨e2, he2⟩ : ∃ e2, e2 = po ps k + pl ps k := ⟨_, rfl⟩
      rw [← he2] at f3 ⊢
      have HE2 := Lib.hid he2
      clear he2
      obtain ⟨m1, m2⟩ : 0 ≤ (-po ps k) % 512 ∧ (-po ps k) % 512 < 512 := by omega
      have m5 : 0 ≤ e2 := by have := HE2.out; omega
      have m6 : po ps k ≤ 1099511627776 := by have := HE2.out; omega
      obtain ⟨m3, m4⟩ : 0 ≤ e2 % 512 ∧ e2 % 512 < 512 := by omega
      by_cases hend : e2 = size
      · have hend' : (e2 != size) = false := by simpa using hend
        have HIF : (if e2 = size then size else e2 - e2 % 512) = size := if_pos hend
        have HEND := Lib.hid hend
        by_cases hq : po ps k + (-po ps k) % 512 < size
        · have HA : Hid (alg size (ps.take (k + 1)) = alg size (ps.take k) ++ [(po ps k + (-po ps k) % 512, size - (po ps k + (-po ps k) % 512))]) := by
            show _ = _
            rw [alg_take size ps k (by rw [HN.out]; exact hlt)]
            congr 1
            unfold alg1
            simp only []
            rw [← HE2.out, HIF, if_pos hq]
          go_wp2_with (first
            | (go_at_call 47; refine (blockPadding_any _ _ (by omega) (by omega)).mono ?_; rintro e w' ⟨rfl, rfl⟩)
            | (refine wpList_append_room (o := ⟨some 44, _, _, _, _, _⟩) _ rfl (.tmp 37) (.tmp 43) _ rfl 73 _ 2 16 Try.underlying64 pinfo_entry g _ c L rfl (hb4.out.alloc _) W4.heap.size 0 1 1 _ _ rfl rfl (RC.of_blk (Blk.new _ _ _)) (two_one _ _) (by have := HWK.out.le; omega) (by have := HWK.out.le; have := HWK.out.len; simp; omega) ?_))
          intro w1 h1 h2 _
          go_wp2
          go_roundw
          case rel => exact ⟨k + 1, by omega, by go_num, by rw [HA.out]; simp, ⟨_, by rw [HA.out]; exact HWK.out.push (by omega) _ _ h1.out⟩, gb_trans (gb_alloc hg4.out _) h2.out⟩
          case measure => simp [intOf]; omega
        · have HA : Hid (alg size (ps.take (k + 1)) = alg size (ps.take k)) := by
            show _ = _
            rw [alg_take size ps k (by rw [HN.out]; exact hlt)]
            unfold alg1
            simp only []
            rw [← HE2.out, HIF, if_neg hq, List.append_nil]
          go_wp2_with (go_at_call 47; refine (blockPadding_any _ _ (by omega) (by omega)).mono ?_; rintro e w' ⟨rfl, rfl⟩)
          go_roundw
          case rel => exact ⟨k + 1, by omega, by go_num, by rw [HA.out], ⟨_, by rw [HA.out]; exact HWK.out.skip hb4.out⟩, hg4.out⟩
          case measure => simp [intOf]; omega
      · have hend' : (e2 != size) = true := by simpa using hend
        have HIF : (if e2 = size then size else e2 - e2 % 512) = (e2 - e2 % 512) := if_neg hend
        by_cases hq : po ps k + (-po ps k) % 512 < (e2 - e2 % 512)
        · have HA : Hid (alg size (ps.take (k + 1)) = alg size (ps.take k) ++ [(po ps k + (-po ps k) % 512, (e2 - e2 % 512) - (po ps k + (-po ps k) % 512))]) := by
            show _ = _
            rw [alg_take size ps k (by rw [HN.out]; exact hlt)]
            congr 1
            unfold alg1
            simp only []
            rw [← HE2.out, HIF, if_pos hq]
          go_wp2_with (first
            | (go_at_call 47; refine (blockPadding_any _ _ (by omega) (by omega)).mono ?_; rintro e w' ⟨rfl, rfl⟩)
            | (refine wpList_append_room (o := ⟨some 44, _, _, _, _, _⟩) _ rfl (.tmp 37) (.tmp 43) _ rfl 73 _ 2 16 Try.underlying64 pinfo_entry g _ c L rfl (hb4.out.alloc _) W4.heap.size 0 1 1 _ _ rfl rfl (RC.of_blk (Blk.new _ _ _)) (two_one _ _) (by have := HWK.out.le; omega) (by have := HWK.out.le; have := HWK.out.len; simp; omega) ?_))
          intro w1 h1 h2 _
          go_wp2
          go_roundw
          case rel => exact ⟨k + 1, by omega, by go_num, by rw [HA.out]; simp, ⟨_, by rw [HA.out]; exact HWK.out.push (by omega) _ _ h1.out⟩, gb_trans (gb_alloc hg4.out _) h2.out⟩
          case measure => simp [intOf]; omega
        · have HA : Hid (alg size (ps.take (k + 1)) = alg size (ps.take k)) := by
            show _ = _
            rw [alg_take size ps k (by rw [HN.out]; exact hlt)]
            unfold alg1
            simp only []
            rw [← HE2.out, HIF, if_neg hq, List.append_nil]
          go_wp2_with (go_at_call 47; refine (blockPadding_any _ _ (by omega) (by omega)).mono ?_; rintro e w' ⟨rfl, rfl⟩)
          go_roundw
          case rel => exact ⟨k + 1, by omega, by go_num, by rw [HA.out], ⟨_, by rw [HA.out]; exact HWK.out.skip hb4.out⟩, hg4.out⟩
          case measure => simp [intOf]; omega
    · obtain rfl : k = n := by omega
      have HG := Lib.hid (hW.own (by omega) HCM.out hbg)
      go_wp2
      go_ret
      rw [HALL.out] at HG
      exact ⟨by rw [HALL.out]; rfl, HG.out, hgk.out⟩
/-- What a function leaves that works on an owned row in place: base is where the owned blocks begin. -/
def Turned (E : TypeId) (base : Nat) (ps : List (Int × Int)) (w : World) (en : Ending) (w' : World) : Prop :=
  ∃ v, en = .returned v ∧ w'.ownsRow base E 2 v ps.length (pcs ps) ∧ Below base w w'

set_option maxRecDepth 20000 in
set_option maxHeartbeats 400000 in
theorem align_any (v : Value) (n base : Nat) (ps : List (Int × Int)) (size : Int) (w : World) (hn : ps.length = n) (how : w.ownsRow base 73 2 v n (pcs ps)) (hB : base ≤ w.heap.size) (hbig : n ≤ 2147483647) (hnear : Near ps) :
    Calls Try.prog 42 #[v, .int .i64 size] w (Turned 73 base (alg size ps) w) := by
  rcases how.2 with ⟨rfl, h0⟩ | ⟨g, cap, cur, rfl, hbg, _⟩
  · subst h0
    obtain rfl : ps = [] := List.eq_nil_of_length_eq_zero hn
    clear how hn
    go_enter Try.func42, Try.ntmps42
    go_wp2
    go_rounds 1
    go_ret
    exact ⟨_, rfl, World.ownsRow_nil _ _ _ _, Below.refl _ _⟩
  · exact (align_some g n cap base ps size w hn how hbig hnear).mono fun e w' ⟨h1, h2, h3⟩ => ⟨_, h1, h2, grownBy_below h3 hB (fun k hk => by injection hk with hk; omega)⟩

theorem alg_near (size : Int) (hs : 0 ≤ size) (hs' : size ≤ 1099511627776) {ps : List (Int × Int)} (h : Near ps) : Fit (alg size ps) := by
  intro p hp
  obtain ⟨q, hq, hpq⟩ := List.mem_flatMap.1 hp
  obtain ⟨a1, a2, a3⟩ := h q hq
  unfold alg1 at hpq
  by_cases hc : q.1 + (-q.1) % 512 < (if q.1 + q.2 = size then size else q.1 + q.2 - (q.1 + q.2) % 512)
  · rw [if_pos hc] at hpq
    simp only [List.mem_singleton] at hpq
    subst hpq
    have hc' := hc
    by_cases he : q.1 + q.2 = size
    · rw [if_pos he] at hc' ⊢
      simp only []
      omega
    · rw [if_neg he] at hc' ⊢
      simp only []
      omega
  · rw [if_neg hc] at hpq
    simp at hpq

set_option maxRecDepth 20000 in
set_option maxHeartbeats 400000 in
theorem zzAlign_any (A : Option Addr) (n c B : Nat) (ps : List (Int × Int)) (size : Int) (w : World) (hn : ps.length = n) (hr : RC w B A (pcs ps)) (hB : B ≤ w.heap.size) (hbig : n ≤ 2147483647) (hnear : Near ps) :
    Calls Try.prog 32 #[.slice A n c, .int .i64 size] w (Made 66 (alg size ps).length (alg size ps) w) := by
  have H := Lib.hid (zzIn_any A n c B ps w hn hr hB hbig)
  have HN := Lib.hid hn
  have HE := Lib.hid hnear
  have hal := alg_len size ps
  rw [hn] at hal
  clear hn hr hnear
  go_enter Try.func32, Try.ntmps32
  go_wp2_with fail
  refine H.out.mono ?_
  rintro e w1 ⟨v, rfl, hown, hb1⟩
  have H2 := Lib.hid (align_any v n w.heap.size ps size w1 HN.out hown hb1.size hbig HE.out)
  have HB1 := Lib.hid hb1
  clear hown hb1
  go_wp2_with fail
  refine H2.out.mono ?_
  rintro e w2 ⟨v2, rfl, hown2, hb2⟩
  obtain ⟨A', c', rfl, _, _, _⟩ := own_form hown2
  have H3 := Lib.hid (zzOut_any A' _ c' w2.heap.size (alg size ps) w2 rfl (RC.of_own hown2) (Nat.le_refl _) (by omega))
  have HB2 := Lib.hid (HB1.out.trans hb2)
  clear hown2 hb2
  go_wp2_with fail
  refine H3.out.mono ?_
  rintro e w3 ⟨v3, rfl, hown3, hb3⟩
  have HO := Lib.hid hown3
  clear hown3
  go_wp2
  go_ret
  refine ⟨_, rfl, ⟨HO.out.1, ?_⟩, HB2.out.trans (hb3.mono HB2.out.size)⟩
  rcases HO.out.2 with h | ⟨g, cap, cur, h1, h2, h3⟩
  · exact .inl h
  · exact .inr ⟨g, cap, cur, h1, Nat.le_trans HB2.out.size h2, h3⟩

set_option maxRecDepth 20000 in
set_option maxHeartbeats 400000 in
theorem implAlign_any (A : Option Addr) (n c B : Nat) (ps : List (Int × Int)) (size : Int) (w : World) (hn : ps.length = n) (hr : RC w B A (pcs ps)) (hB : B ≤ w.heap.size) (hbig : n ≤ 2147483647) (hnear : Near ps) :
    Calls Try.prog 18 #[.slice A n c, .int .i64 size] w (Made 32 (alg size ps).length (alg size ps) w) := by
  have H := Lib.hid (implPieces_any A n c B ps w hn hr hB hbig)
  have HN := Lib.hid hn
  have HE := Lib.hid hnear
  have hal := alg_len size ps
  rw [hn] at hal
  clear hn hr hnear
  go_enter Try.func18, Try.ntmps18
  go_wp2_with fail
  refine H.out.mono ?_
  rintro e w1 ⟨v, rfl, hown, hb1⟩
  obtain ⟨A', c', rfl, _, _, _⟩ := own_form hown
  have H2 := Lib.hid (zzAlign_any A' n c' w1.heap.size ps size w1 HN.out (RC.of_own hown) (Nat.le_refl _) hbig HE.out)
  have HB1 := Lib.hid hb1
  clear hown hb1
  go_wp2_with fail
  refine H2.out.mono ?_
  rintro e w2 ⟨v2, rfl, hown2, hb2⟩
  obtain ⟨A', c', rfl, _, _, _⟩ := own_form hown2
  have H3 := Lib.hid (implBack_any A' _ c' w2.heap.size (alg size ps) w2 rfl (RC.of_own hown2) (Nat.le_refl _) (by omega))
  have HB2 := Lib.hid (HB1.out.trans (hb2.mono HB1.out.size))
  clear hown2 hb2
  go_wp2_with fail
  refine H3.out.mono ?_
  rintro e w3 ⟨v3, rfl, hown3, hb3⟩
  have HO := Lib.hid hown3
  clear hown3
  go_wp2
  go_ret
  refine ⟨_, rfl, ⟨HO.out.1, ?_⟩, HB2.out.trans (hb3.mono HB2.out.size)⟩
  rcases HO.out.2 with h | ⟨g, cap, cur, h1, h2, h3⟩
  · exact .inl h
  · exact .inr ⟨g, cap, cur, h1, Nat.le_trans HB2.out.size h2, h3⟩
end Go.Proofs.Ytiahifohkhdmdaa
