/- The law FnRegWrite: its own walk. -/
import Derived.Test.YtiahifohkhdmdaaDoorRegZ
import Derived.Test.YtiahifohkhdmdaaDoorSame
namespace Go.Proofs.YtiahifohkhdmdaaDoor
open Go.RowKit Go.PlainAid
set_option linter.unusedVariables false

set_option maxRecDepth 20000 in
set_option maxHeartbeats 800000 in
theorem implRegWrite (S : Nat) (A : Option Addr) (n c : Nat) (pl : List Part) (a1 a2 a3 : Addr) (w : World) (hS : S ≤ 9223372036854775807) (hn : pl.length = n) (hr : RC w w.heap.size A (psl pl)) (hok : ∀ p ∈ pl, PartOk w w.heap.size p) (hbig : n ≤ 1048576) (hs : ∀ p ∈ pl, p.n ≤ 1048576)
    (hsum : ∀ k, k ≤ n → (outB S pl k).length ≤ 1048576)
    (h1 : Err w.heap.size w 2 a1) (h2 : Err w.heap.size w 3 a2) (h3 : Err w.heap.size w 1 a3) (n1 : a3 ≠ a1) (n2 : a3 ≠ a2) :
    Calls Tryd.prog 13 #[.int .i64 S, .slice A n c] w (RegOut S pl n w) := by
  have H := Lib.hid (zzRegWrite S A n c pl a1 a2 a3 w hS hn hr hok hbig hs hsum h1 h2 h3 n1 n2)
  clear hn hr hok hs hsum h1 h2 h3 n1 n2
  go_enter Tryd.func13, Tryd.ntmps13
  go_wp2_with fail
  refine H.out.mono ?_
  rintro e w2 ⟨vb, ns, ends, rfl, q1, q2, q3, q4⟩
  have Q1 := Lib.hid q1
  have Q2 := Lib.hid q2
  have Q3 := Lib.hid q3
  clear q1 q2 q3
  go_wp2
  go_ret3
  exact ⟨vb, ns, ends, rfl, Q1.out, Q2.out, Q3.out, q4⟩

/-- What the law's loop has put together. -/
structure WantAt (S : Nat) (pl : List Part) (k B : Nat) (w1 : World) (want : Value) (wr : World) : Prop where
  own : wr.ownsRow B 5 1 want (outB S pl k).length (bys (outB S pl k))
  bel : Below B w1 wr
theorem RC.int {w : World} {B n : Nat} {A : Option Addr} {f : Nat → Int} (h : RC w B A ((List.range n).map fun j => .int .i64 (f j))) {k : Nat} (hk : k < n) :
    ∃ b off, A = some ⟨b, off, none⟩ ∧ b < B ∧ w.cell? ⟨b, off + k, none⟩ = some (.int .i64 (f k)) := by
  obtain ⟨b, off, e, hb, hc⟩ := h (by simp; omega)
  exact ⟨b, off, e, hb, hc k _ (by simp [hk])⟩
theorem lft_succ (S : Nat) (pl : List Part) (k : Nat) : lft S pl (k + 1) = lft S pl k - got S pl k := rfl
theorem got_le (S : Nat) (pl : List Part) (k : Nat) : got S pl k ≤ (pat pl k).n := Nat.min_le_left _ _
theorem got_le2 (S : Nat) (pl : List Part) (k : Nat) : got S pl k ≤ lft S pl k := Nat.min_le_right _ _
theorem RB.takeN {w : World} {B : Nat} {A : Option Addr} {bs : List UInt8} (h : RB w B A bs) (n : Nat) : RB w B A (bs.take n) := h.take n

theorem wantAt_step {S : Nat} {pl : List Part} {k m B : Nat} {w1 wr w2 : World} {v v' : Value} (hg : got S pl k = m) (hl : (pat pl k).bs.length = (pat pl k).n) (hb : Below B w1 wr) (ho : wr.ownsRow B 5 1 v (outB S pl k).length (bys (outB S pl k)))
    (h1 : w2.ownsRow B 5 1 v' ((outB S pl k).length + m) (bys (outB S pl k) ++ bys ((pat pl k).bs.take m))) (h2 : wr.grownBy w2 v.ownBlock) (hB : B ≤ wr.heap.size) : WantAt S pl (k + 1) B w1 v' w2 := by
  have e : outB S pl (k + 1) = outB S pl k ++ (pat pl k).bs.take m := by rw [← hg]; rfl
  have g1 := got_le S pl k
  refine ⟨?_, hb.grown h2 hB (fun g hg => (ho.lt g hg).1)⟩
  rw [e, bys_append, List.length_append, List.length_take, hl, Nat.min_eq_left (by omega)]
  exact h1

set_option maxRecDepth 20000 in
set_option maxHeartbeats 1600000 in
theorem fnRegWrite_pos (S : Nat) (A : Option Addr) (n c : Nat) (pl : List Part) (a1 a2 a3 : Addr) (w : World) (hS : S ≤ 9223372036854775807) (hn : pl.length = n) (hr : RC w w.heap.size A (psl pl)) (hok : ∀ p ∈ pl, PartOk w w.heap.size p) (hbig : n ≤ 1048576) (hs : ∀ p ∈ pl, p.n ≤ 1048576)
    (hsum : ∀ k, k ≤ n → (outB S pl k).length ≤ 1048576)
    (h1 : Err w.heap.size w 2 a1) (h2 : Err w.heap.size w 3 a2) (h3 : Err w.heap.size w 1 a3) (n1 : a3 ≠ a1) (n2 : a3 ≠ a2) :
    Calls Tryd.prog 4 #[.int .i64 S, .slice A n c] w fun e w' => e = .returned (.bool true) ∧ Below w.heap.size w w' := by
  have HF := Lib.hid (fits9 A n c w.heap.size pl w hn hr hbig hs)
  have HI := Lib.hid (implRegWrite S A n c pl a1 a2 a3 w hS hn hr hok hbig hs hsum h1 h2 h3 n1 n2)
  have HN := Lib.hid hn
  have HR := Lib.hid hr
  have HOK := Lib.hid hok
  have HS := Lib.hid hs
  have HSUM := Lib.hid hsum
  clear hn hr hok hs hsum h1 h2 h3 n1 n2
  go_enter Tryd.func4, Tryd.ntmps4
  go_wp2_with fail
  refine HF.out.mono ?_
  rintro e w' ⟨rfl, rfl⟩
  go_wp2_with fail
  refine HI.out.mono ?_
  rintro e w1 ⟨vb, ns, ends, rfl, q1, q2, q3, q4⟩
  obtain ⟨Ab, cb, rfl, _, _, _⟩ := own_form q1
  obtain ⟨An, cn, rfl, _, _, _⟩ := own_form q2
  obtain ⟨Ae, ce, rfl, _, _, _⟩ := own_form q3
  have Q1 := Lib.hid (RB.of_RC (RC.of_own q1))
  have Q2 := Lib.hid (RC.of_own q2)
  have Q3 := Lib.hid (RC.of_own q3)
  have Q4 := Lib.hid q4
  have hz1 := q4.size
  clear q1 q2 q3 q4
  go_wp2_with fail
  go_loopw [8, 9, 41] (fun left want i wr => ∃ k : Nat, k ≤ n ∧ i = .int .i64 k ∧ left = .int .i64 (lft S pl k) ∧ WantAt S pl k w1.heap.size w1 want wr) (fun _ _ i _ => n - (intOf i).toNat)
  case atStart => exact ⟨0, by omega, rfl, rfl, ⟨World.ownsRow_nil _ _ _ _, Below.refl _ _⟩⟩
  case round =>
    obtain ⟨k, hk, rfl, rfl, hat⟩ := hrel
    have HW := Lib.hid hat.own
    have HB := Lib.hid hat.bel
    clear hat
    by_cases hlt : k < n
    · obtain ⟨b, off, hA, hbB, hc⟩ := ((HR.out.below Q4.out).below (HB.out.mono hz1)).part (k := k) (by rw [HN.out]; exact hlt)
      subst hA
      have hmem := pat_mem pl k (by rw [HN.out]; exact hlt)
      have hp1 := HS.out _ hmem
      have HP := Lib.hid (((HOK.out _ hmem).below Q4.out (Nat.le_refl _)).below (HB.out.mono hz1) (Nat.le_refl _))
      have hcap := HP.out.cap
      obtain ⟨bn, on, rfl, hbn, cn'⟩ := (Q2.out.below HB.out).int hlt
      obtain ⟨be, oe, rfl, hbe, ce'⟩ := (Q3.out.below HB.out).int hlt
      have g1 := got_le S pl k
      have g2 := got_le2 S pl k
      have g3 := lft_le S pl k
      have HG : Hid (lft S pl k < (pat pl k).n → got S pl k = lft S pl k) := Lib.hid (fun h => by unfold got; omega)
      have HG' : Hid (¬ lft S pl k < (pat pl k).n → got S pl k = (pat pl k).n) := Lib.hid (fun h => by unfold got; omega)
      by_cases hl : lft S pl k < (pat pl k).n
      · have he : endN S pl k = 3 := by unfold endN; rw [if_pos hl]
        have HGE := Lib.hid (HG.out hl)
        clear HG HG'
        rw [he] at ce'
        rw [HGE.out] at cn'
        clear he
        have HT : Hid ((bys ((pat pl k).bs.take (lft S pl k))).length = (lft S pl k) * 1) := Lib.hid (by rw [length_bys, List.length_take, HP.out.len]; omega)
        have HRC := Lib.hid (RC.of_RB (HP.out.rb.take (lft S pl k)))
        have HLN := Lib.hid (HSUM.out k (by omega))
        have HL := HSUM.out k (by omega)
        go_wp2_with (at_builtin; refine wpList_append_rc _ (o := ⟨some 70, _, _, _, _, _⟩) rfl (.tmp 66) (.tmp 69) _ rfl w1.heap.size 5 _ 1 1 Tryd.underlying23 u8info rfl (by omega) _ _ _ rfl HW.out (pat pl k).A (lft S pl k) _ _ (bys ((pat pl k).bs.take (lft S pl k))) rfl HT.out HRC.out (bys_one _) (by omega) (by omega) HB.out.size ?_)
        intro want' w2 h1 h2 h3
        have HAT := Lib.hid (wantAt_step HGE.out HP.out.len HB.out HW.out h1.out h2.out HB.out.size)
        have HLF : Hid (lft S pl (k + 1) = lft S pl k - (lft S pl k)) := Lib.hid ((lft_succ S pl k).trans (congrArg (lft S pl k - ·) HGE.out))
        clear h1 h2 h3 cn' ce' hc
        go_wp2
        go_roundw
        case rel => exact ⟨k + 1, by omega, by go_num, by rw [HLF.out]; go_num, HAT.out⟩
        case measure => simp [intOf]; omega
      · have he : endN S pl k = 0 := by unfold endN; rw [if_neg hl]
        have HGE := Lib.hid (HG'.out hl)
        clear HG HG'
        rw [he] at ce'
        rw [HGE.out] at cn'
        clear he
        have HT : Hid ((bys ((pat pl k).bs.take (pat pl k).n)).length = (pat pl k).n * 1) := Lib.hid (by rw [length_bys, List.length_take, HP.out.len]; omega)
        have HRC := Lib.hid (RC.of_RB (HP.out.rb.take (pat pl k).n))
        have HLN := Lib.hid (HSUM.out k (by omega))
        have HL := HSUM.out k (by omega)
        go_wp2_with (at_builtin; refine wpList_append_rc _ (o := ⟨some 70, _, _, _, _, _⟩) rfl (.tmp 66) (.tmp 69) _ rfl w1.heap.size 5 _ 1 1 Tryd.underlying23 u8info rfl (by omega) _ _ _ rfl HW.out (pat pl k).A (pat pl k).n _ _ (bys ((pat pl k).bs.take (pat pl k).n)) rfl HT.out HRC.out (bys_one _) (by omega) (by omega) HB.out.size ?_)
        intro want' w2 h1 h2 h3
        have HAT := Lib.hid (wantAt_step HGE.out HP.out.len HB.out HW.out h1.out h2.out HB.out.size)
        have HLF : Hid (lft S pl (k + 1) = lft S pl k - (pat pl k).n) := Lib.hid ((lft_succ S pl k).trans (congrArg (lft S pl k - ·) HGE.out))
        clear h1 h2 h3 cn' ce' hc
        go_wp2
        go_roundw
        case rel => exact ⟨k + 1, by omega, by go_num, by rw [HLF.out]; go_num, HAT.out⟩
        case measure => simp [intOf]; omega
    · obtain rfl : k = n := by omega
      obtain ⟨Aw, cw, rfl, _, _, _⟩ := own_form HW.out
      have HRW := Lib.hid (RB.of_RC (RC.of_own HW.out))
      go_wp2_with fail
      refine (same_yes Ab Aw (outB S pl k).length cb cw _ _ (outB S pl k) wr rfl (Q1.out.below HB.out) HRW.out).mono ?_
      rintro e w' ⟨rfl, rfl⟩
      go_wp2
      go_ret
      exact ⟨rfl, Q4.out.trans (HB.out.mono hz1)⟩
end Go.Proofs.YtiahifohkhdmdaaDoor
