/- FnRegWrite: the walk of ZZRegWrite and impl.RegWrite. -/
import Derived.Test.YtiahifohkhdmdaaDoorRegLoop
import Derived.Test.YtiahifohkhdmdaaDoorRegAny
import Derived.Test.YtiahifohkhdmdaaDoorApp
import Derived.Outline
namespace Go.Proofs.YtiahifohkhdmdaaDoor
open Go.RowKit Go.PlainAid
set_option linter.unusedVariables false

theorem zero_buffer (w : World) : (zeroValue 62).run Tryd.prog w = .ok (.agg #[.slice none 0 0, .int .i64 0, .int .i8 0]) w := by kernel_rfl
theorem intinfo : (Tryd.prog.info? 3).map (fun i => (i.zero, i.size, i.bytes)) = some (some (.int .i64 0), 1, 8) := by kernel_rfl

/-- What ZZRegWrite has in memory: two rows of numbers, the writer, its buffer. -/
structure RegSt (w : World) (nn : Nat) (xs : List Value) (ne : Nat) (ys : List Value) (left : Nat) (out : List UInt8) (ns ends : Value) (wr : World) : Prop where
  rNs : wr.ownsRow w.heap.size 3 1 ns nn xs
  rEnds : wr.ownsRow w.heap.size 3 1 ends ne ys
  rNe : ns.ownBlock = none ∨ ns.ownBlock ≠ ends.ownBlock
  rFw : Blk wr (w.heap.size + 1) 68 (fwCells w.heap.size left)
  rBuf : Lib.IsBuffer 62 5 w.heap.size w.heap.size (bys out) wr
  rBel : Below w.heap.size w wr

section
variable {w wr w' : World} {nn ne left : Nat} {xs ys : List Value} {out : List UInt8} {ns ends : Value}
theorem RegSt.buf_blk (h : RegSt w nn xs ne ys left out ns ends wr) : ∃ zs, Blk wr w.heap.size 62 zs := by
  obtain ⟨_, v0, lr, hbk, _, _⟩ := h.rBuf
  exact ⟨[v0, .int .i64 0, .int .i8 lr], hbk⟩
theorem RegSt.below (h : RegSt w nn xs ne ys left out ns ends wr) (hb : Below wr.heap.size wr w') : RegSt w nn xs ne ys left out ns ends w' where
  rNs := own_below h.rNs hb (Nat.le_refl _)
  rEnds := own_below h.rEnds hb (Nat.le_refl _)
  rNe := h.rNe
  rFw := h.rFw.below hb h.rFw.lt
  rBuf := by
    obtain ⟨hB, v0, lr, hbk, hown, hne⟩ := h.rBuf
    have hb0 : Blk wr w.heap.size 62 [v0, .int .i64 0, .int .i8 lr] := hbk
    exact ⟨hB, v0, lr, hb0.below hb hb0.lt, own_below hown hb (Nat.le_refl _), hne⟩
  rBel := h.rBel.trans (hb.mono h.rBel.size)
theorem RegSt.alloc (h : RegSt w nn xs ne ys left out ns ends wr) (o : Obj) : RegSt w nn xs ne ys left out ns ends (wr.alloc o) :=
  h.below ((Below.refl _ _).alloc (Nat.le_refl _) o)
theorem RegSt.write {left' : Nat} {out' : List UInt8} (h : RegSt w nn xs ne ys left out ns ends wr) (h1 : Blk w' (w.heap.size + 1) 68 (fwCells w.heap.size left'))
    (h2 : Lib.IsBuffer 62 5 w.heap.size w.heap.size (bys out') w') (h3 : Below w.heap.size wr w') (h4 : KeptBut 5 w.heap.size (w.heap.size + 1) wr w') : RegSt w nn xs ne ys left' out' ns ends w' where
  rNs := by
    obtain ⟨zs, hz⟩ := h.buf_blk
    exact ownsRow_keptBut h.rNs h4 (by decide) hz (by decide) h.rFw (by decide)
  rEnds := by
    obtain ⟨zs, hz⟩ := h.buf_blk
    exact ownsRow_keptBut h.rEnds h4 (by decide) hz (by decide) h.rFw (by decide)
  rNe := h.rNe
  rFw := h1
  rBuf := h2
  rBel := h.rBel.trans h3
theorem own_ne_blk {B e n t : Nat} {v : Value} {xs zs : List Value} {w : World} {g : Nat} (h : w.ownsRow B e 1 v n xs) (hb : Blk w g t zs) (ht : t ≠ e) : some g ≠ v.ownBlock := fun hv => by
  obtain ⟨ys, hy⟩ := ownsRow_blk h hv.symm
  exact blk_ne hb hy ht rfl
theorem RegSt.appNs {ns' : Value} {x : Value} (h : RegSt w nn xs ne ys left out ns ends wr) (h1 : w'.ownsRow w.heap.size 3 1 ns' (nn + 1) (xs ++ [x])) (hg : wr.grownBy w' ns.ownBlock)
    (hp : ns'.ownBlock = ns.ownBlock ∨ ns'.ownBlock = some wr.heap.size) : RegSt w (nn + 1) (xs ++ [x]) ne ys left out ns' ends w' where
  rNs := h1
  rEnds := h.rEnds.kept hg (by
    rcases h.rNe with e | e
    · cases he : ends.ownBlock with
      | none => exact .inl rfl
      | some g => exact .inr (by rw [e]; simp)
    · exact .inr (Ne.symm e))
  rNe := by
    rcases hp with e | e
    · rw [e]; exact h.rNe
    · refine .inr fun h2 => ?_
      have := (h.rEnds.lt wr.heap.size (by rw [← h2, e])).2
      omega
  rFw := h.rFw.grown hg (own_ne_blk h.rNs h.rFw (by decide))
  rBuf := isBuffer_grown h.rBuf h.rNs hg (by decide) (by decide)
  rBel := h.rBel.grown hg h.rBel.size (fun k hk => (h.rNs.lt k hk).1)
theorem RegSt.appEnds {ends' : Value} {x : Value} (h : RegSt w nn xs ne ys left out ns ends wr) (h1 : w'.ownsRow w.heap.size 3 1 ends' (ne + 1) (ys ++ [x])) (hg : wr.grownBy w' ends.ownBlock)
    (hp : ends'.ownBlock = ends.ownBlock ∨ ends'.ownBlock = some wr.heap.size) : RegSt w nn xs (ne + 1) (ys ++ [x]) left out ns ends' w' where
  rNs := h.rNs.kept hg h.rNe
  rEnds := h1
  rNe := by
    rcases h.rNe with e | e
    · exact .inl e
    · rcases hp with e1 | e1
      · exact .inr (by rw [e1]; exact e)
      · refine .inr fun h2 => ?_
        have := (h.rNs.lt wr.heap.size (by rw [h2, e1])).2
        omega
  rFw := h.rFw.grown hg (own_ne_blk h.rEnds h.rFw (by decide))
  rBuf := isBuffer_grown h.rBuf h.rEnds hg (by decide) (by decide)
  rBel := h.rBel.grown hg h.rBel.size (fun k hk => (h.rEnds.lt k hk).1)
end

/-- What ZZRegWrite has done behind k parts. -/
abbrev RegAt (S : Nat) (pl : List Part) (k : Nat) (w : World) (ns ends : Value) (wr : World) : Prop := RegSt w k (nsV S pl k) k (endsV S pl k) (lft S pl k) (outB S pl k) ns ends wr

theorem regAt_start (S : Nat) (pl : List Part) (w : World) :
    RegAt S pl 0 w (.slice none 0 0) (.slice none 0 0) ((w.alloc (.cells #[.slice none 0 0, .int .i64 0, .int .i8 0] 62)).alloc (.cells #[.iface 64 (.pointer (some ⟨w.heap.size, 0, none⟩)), .int .i64 S] 68)) where
  rNs := World.ownsRow_nil _ _ _ _
  rEnds := World.ownsRow_nil _ _ _ _
  rNe := .inl rfl
  rFw := by
    have h := Blk.new (w.alloc (.cells #[.slice none 0 0, .int .i64 0, .int .i8 0] 62)) 68 (fwCells w.heap.size S)
    have e : (w.alloc (.cells #[.slice none 0 0, .int .i64 0, .int .i8 0] 62)).heap.size = w.heap.size + 1 := by simp
    rw [e] at h
    exact h
  rBuf := (Lib.fresh_isBuffer 62 5 w).alloc _
  rBel := ((Below.refl w.heap.size w).alloc (Nat.le_refl _) _).alloc (by simp) _

theorem regAt_step {S k : Nat} {pl : List Part} {w wr : World} {ns ends : Value}
    (h : RegSt w (k + 1) (nsV S pl k ++ [.int .i64 (min (pat pl k).n (lft S pl k) : Nat)]) (k + 1) (endsV S pl k ++ [.int .i64 (endI (decide (lft S pl k < (pat pl k).n)))]) (lft S pl k - min (pat pl k).n (lft S pl k)) (outB S pl k ++ (pat pl k).bs.take (min (pat pl k).n (lft S pl k))) ns ends wr) :
    RegAt S pl (k + 1) w ns ends wr := by
  have e : endI (decide (lft S pl k < (pat pl k).n)) = endN S pl k := by
    unfold endI endN
    by_cases hc : lft S pl k < (pat pl k).n <;> simp [hc]
  rw [e] at h
  unfold RegAt
  rw [nsV_succ, endsV_succ]
  exact h

/-- What ZZRegWrite hands back. -/
def RegOut (S : Nat) (pl : List Part) (n : Nat) (w : World) (e : Ending) (w' : World) : Prop := ∃ vb ns ends, e = .returned (.tuple #[vb, ns, ends]) ∧
  w'.ownsRow w.heap.size 5 1 vb (outB S pl n).length (bys (outB S pl n)) ∧ w'.ownsRow w.heap.size 3 1 ns n (nsV S pl n) ∧ w'.ownsRow w.heap.size 3 1 ends n (endsV S pl n) ∧ Below w.heap.size w w'

set_option maxRecDepth 20000 in
set_option maxHeartbeats 800000 in
theorem zzRegWrite (S : Nat) (A : Option Addr) (n c : Nat) (pl : List Part) (a1 a2 a3 : Addr) (w : World) (hS : S ≤ 9223372036854775807) (hn : pl.length = n) (hr : RC w w.heap.size A (psl pl)) (hok : ∀ p ∈ pl, PartOk w w.heap.size p) (hbig : n ≤ 1048576) (hs : ∀ p ∈ pl, p.n ≤ 1048576)
    (hsum : ∀ k, k ≤ n → (outB S pl k).length ≤ 1048576)
    (h1 : Err w.heap.size w 2 a1) (h2 : Err w.heap.size w 3 a2) (h3 : Err w.heap.size w 1 a3) (n1 : a3 ≠ a1) (n2 : a3 ≠ a2) :
    Calls Tryd.prog 21 #[.int .i64 S, .slice A n c] w (RegOut S pl n w) := by
  have HN := Lib.hid hn
  have HR := Lib.hid hr
  have HOK := Lib.hid hok
  have HS := Lib.hid hs
  have HSUM := Lib.hid hsum
  have H1 := Lib.hid h1
  have H2 := Lib.hid h2
  have H3 := Lib.hid h3
  have HN1 := Lib.hid n1
  have HN2 := Lib.hid n2
  clear hn hr hok hs hsum h1 h2 h3 n1 n2
  have hz := zero_buffer
  go_enter Tryd.func21, Tryd.ntmps21
  have HST := Lib.hid (regAt_start S pl w)
  go_wp2
  go_loopw [9, 10, 21] (fun ns ends i wr => ∃ k : Nat, k ≤ n ∧ i = .int .i64 k ∧ RegAt S pl k w ns ends wr) (fun _ _ i _ => n - (intOf i).toNat)
  case atStart => exact ⟨0, by omega, rfl, HST.out⟩
  case round =>
    obtain ⟨k, hk, rfl, hreg⟩ := hrel
    have HG := Lib.hid hreg
    by_cases hlt : k < n
    · obtain ⟨b, off, hA, hbB, hc⟩ := (HR.out.below hreg.rBel).part (k := k) (by rw [HN.out]; exact hlt)
      subst hA
      have hmem := pat_mem pl k (by rw [HN.out]; exact hlt)
      have hp1 := HS.out _ hmem
      have HP := Lib.hid ((HOK.out _ hmem).below hreg.rBel (Nat.le_refl _))
      have hcap := HP.out.cap
      have hsz : w.heap.size + 1 < wr.heap.size := hreg.rFw.lt
      clear hreg
      go_wp2_with fail
      refine (clone_any _ _ _ _ _ wr HP.out.len HP.out.rb HG.out.rBel.size (by omega)).mono ?_
      rintro e w2 ⟨v, rfl, hv, hb2⟩
      obtain ⟨A', c', rfl, hnil, hnc, hblk⟩ := own_form hv
      have HV := Lib.hid (RB.of_RC (RC.of_own hv))
      have HG2 := Lib.hid (HG.out.below hb2)
      have HBK := Lib.hid hblk
      have HNIL := Lib.hid hnil
      have hb2s := hb2.size
      have HE3 := Lib.hid ((H3.out.below HG.out.rBel (Nat.le_refl _)).below (hb2.mono (B' := w.heap.size) (by omega)) (Nat.le_refl _))
      clear hv hb2 hblk hnil
      go_wp2_with fail
      refine (regWrite_any _ _ w.heap.size _ _ _ w.heap.size _ a3 _ _ w2 HG2.out.rFw HG2.out.rBuf (by omega) (by omega) (by omega) HP.out.len HV.out (fun ad h => by have := (HBK.out ad h).1; omega) HNIL.out hnc (by omega) (Nat.le_trans (lft_le _ _ _) hS) (by
        have h1 := HSUM.out (k + 1) (by omega)
        simp only [outB, got, List.length_append, List.length_take, HP.out.len] at h1
        omega) HE3.out (Nat.le_refl _)).mono ?_
      rintro e w3 ⟨rfl, q1, q2, q3, q4⟩
      have HG3 := Lib.hid (HG2.out.write q1 q2 q3 q4)
      have hz3 : w.heap.size ≤ w3.heap.size := HG3.out.rBel.size
      clear q1 q2 q3 q4
      go_wp2_with (at_builtin; refine wpList_append_one (o := ⟨some 35, _, _, _, _, _⟩) rfl (.tmp 32) (.tmp 34) _ rfl w.heap.size 3 _ 8 Tryd.underlying32 intinfo rfl _ k (nsV S pl k) rfl (HG3.out.alloc _).rNs rfl rfl (by omega) (by omega) hz3 ?_)
      intro ns' w4 h1 h2 h3
      have hz4 : w.heap.size ≤ w4.heap.size := by
        have := h2.out.size
        simp at this
        omega
      have HG4 := Lib.hid ((HG3.out.alloc _).appNs h1.out h2.out (by simpa using h3.out))
      clear h1 h2 h3
      go_wp2_with fail
      refine (zzEnd_any (B := w.heap.size) w4 _ (H1.out.below HG4.out.rBel (Nat.le_refl _)) (H2.out.below HG4.out.rBel (Nat.le_refl _)) (H3.out.below HG4.out.rBel (Nat.le_refl _)) HN1.out HN2.out).mono ?_
      rintro e w5 ⟨rfl, rfl⟩
      go_wp2_with (at_builtin; refine wpList_append_one (o := ⟨some 40, _, _, _, _, _⟩) rfl (.tmp 36) (.tmp 39) _ rfl w.heap.size 3 _ 8 Tryd.underlying32 intinfo rfl _ k (endsV S pl k) rfl (HG4.out.alloc _).rEnds rfl rfl (by omega) (by omega) hz4 ?_)
      intro ends' w5 h1 h2 h3
      have HG5 := Lib.hid (regAt_step ((HG4.out.alloc _).appEnds h1.out h2.out (by simpa using h3.out)))
      clear h1 h2 h3
      go_wp2
      go_roundw
      case rel => exact ⟨k + 1, by omega, by go_num, HG5.out⟩
      case measure => simp [intOf]; omega
    · obtain rfl : k = n := by omega
      have HBL := Lib.hid (length_bys (outB S pl k))
      clear hreg
      go_wp2_with fail
      refine (Tryd.Buffer_Bytes _ _ _ _ HG.out.rBuf).mono ?_
      rintro e w2 ⟨vb, rfl, hvb, q, rfl⟩
      have HVB := Lib.hid hvb
      clear hvb
      go_wp2
      go_ret3
      have h1 := HVB.out
      rw [HBL.out] at h1
      exact ⟨vb, _, _, rfl, h1, HG.out.rNs, HG.out.rEnds, below_drewN HG.out.rBel q⟩
end Go.Proofs.YtiahifohkhdmdaaDoor
