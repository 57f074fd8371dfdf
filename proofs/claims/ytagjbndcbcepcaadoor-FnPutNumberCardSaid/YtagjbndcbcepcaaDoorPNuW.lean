/- The law FnPutNumber: its own walk. -/
import Derived.Test.YtagjbndcbcepcaaDoorPNu
import Derived.Test.YtagjbndcbcepcaaDoorNumS2
import Derived.Test.YtagjbndcbcepcaaDoorNumL
import Derived.Test.YtagjbndcbcepcaaDoorPutBW
import Derived.Test.YtagjbndcbcepcaaDoorBelow
namespace Go.Proofs.YtagjbndcbcepcaaDoor
open Go.RowKit Go.PlainAid
set_option linter.unusedVariables false

/-- spec.Number reads what was put. -/
def RightP (n : Int) (w : World) (e : Ending) (w' : World) : Prop := e = .returned (.tuple #[.int .i64 n, .int .i64 1]) ∧ w = w'
theorem specNumR_oct (s N : Nat) (A : Option Addr) (B : Nat) (w : World) (hs : s ≤ 20) (hN : N < 8 ^ (s + 1)) (hr : RB w B A (od (s + 1) (N : Int) ++ [0])) :
    Calls Tryd.prog 15 #[.slice A (s + 1 + 1) (s + 1 + 1)] w (RightP (N : Int) w) := by
  have hd := dO_toNat ((N : Int) / ((8 ^ s : Nat) : Int))
  have ee : od (s + 1) (N : Int) ++ [0] = dO ((N : Int) / ((8 ^ s : Nat) : Int)) :: (od s (N : Int) ++ [0]) := by rw [od, List.cons_append]
  rw [ee] at hr
  refine (specNumG_oct A (s + 1 + 1) (s + 1 + 1) B (dO ((N : Int) / ((8 ^ s : Nat) : Int))) (od s (N : Int) ++ [0]) w (by simp [od_len]) hr (Nat.le_refl _) (by omega) (by omega)).mono ?_
  rintro e w1 ⟨⟨X, V, rfl, hG⟩, rfl⟩
  obtain ⟨rfl, hX⟩ := octSG_good (d := od (s + 1) (N : Int)) (e := [0]) hG ee.symm (od_all8 _ _) (fun h => by have := congrArg List.length h; rw [od_len, List.length_nil] at this; omega) (by rw [od_len]; omega) (by simp) (fun c hc => .inr (by simpa using hc))
  rw [od_v8 N (s + 1) 0, Nat.mod_eq_of_lt hN, Nat.zero_mul, Nat.zero_add] at hX
  rw [hX]
  exact ⟨rfl, rfl⟩
theorem specNumR_bin (m : Nat) (n : Int) (A : Option Addr) (B : Nat) (w : World) (hm : m ≤ 21) (hf : fitsB m n = true) (h1 : -9223372036854775808 ≤ n) (h2 : n ≤ 9223372036854775807) (hr : RB w B A (fieldB m n)) :
    Calls Tryd.prog 15 #[.slice A (m + 1) (m + 1)] w (RightP n w) := by
  obtain ⟨neg, N, hn, hneg⟩ := sg_of n
  obtain ⟨e1, e2, e3⟩ := fieldB_U (m := m) hn hneg
  obtain ⟨e4, e5⟩ := fits_N hn hf h1 h2
  have key : ∀ e w', NumSGP (headB n) (be m n) w e w' → RightP n w e w' := by
    rintro e w1 ⟨⟨X, V, rfl, hG⟩, rfl⟩
    unfold NumSG at hG
    rw [e1, e3, e4] at hG
    rcases hG with ⟨_, h⟩ | ⟨rfl, rfl⟩
    · omega
    · rw [hn]
      exact ⟨rfl, rfl⟩
  by_cases h : n < 0
  · exact (specNumG_neg A m (m + 1) B (headB n) (be m n) w (be_len _ _) hr (Nat.le_refl _) (by omega) (by unfold headB; rw [if_pos h]; rfl)).mono key
  · exact (specNumG_pos A m (m + 1) B (headB n) (be m n) w (be_len _ _) hr (Nat.le_refl _) (by omega) (by unfold headB; rw [if_neg h]; rfl)).mono key
/-- impl.Number reads what was put. -/
def ReadP (n : Int) (w : World) (e : Ending) (w' : World) : Prop := e = .returned (.tuple #[.int .i64 n, .bool true]) ∧ Below w.heap.size w w'
theorem implNum_oct {a a1 a2 : Addr} (s N : Nat) (A : Option Addr) (B : Nat) (w : World) (hs : s ≤ 20) (hf : fitsO (s + 1) (N : Int) = true) (hr : RB w B A (od (s + 1) (N : Int) ++ [0])) (hB : B ≤ w.heap.size)
    (hE : Err w.heap.size w 0 a) (hE1 : Err w.heap.size w 2 a1) (hE2 : Err w.heap.size w 3 a2) :
    Calls Tryd.prog 16 #[.slice A (s + 1 + 1) (s + 1 + 1)] w (ReadP (N : Int) w) := by
  refine (implNumber A (s + 1 + 1) (s + 1 + 1) B (od (s + 1) (N : Int) ++ [0]) w (by simp [od_len]) hr hB (by omega) hE hE1 hE2).mono ?_
  rintro e w2 ⟨y, ok, rfl, hR, hb⟩
  have hd := dO_toNat ((N : Int) / ((8 ^ s : Nat) : Int))
  rcases hR with ⟨_, hR⟩ | ⟨x, r, e, hx, _⟩
  · obtain ⟨rfl, rfl⟩ := octR_field (by omega) (by omega) hf (by simp) (fun c hc => .inr (by simpa using hc)) hR
    exact ⟨rfl, hb⟩
  · rw [od, List.cons_append] at e
    injection e with e _
    subst e
    omega
theorem implNum_bin {a a1 a2 : Addr} (m : Nat) (n : Int) (A : Option Addr) (B : Nat) (w : World) (hm : m ≤ 21) (hf : fitsB m n = true) (h1 : -9223372036854775808 ≤ n) (h2 : n ≤ 9223372036854775807) (hr : RB w B A (fieldB m n)) (hB : B ≤ w.heap.size)
    (hE : Err w.heap.size w 0 a) (hE1 : Err w.heap.size w 2 a1) (hE2 : Err w.heap.size w 3 a2) :
    Calls Tryd.prog 16 #[.slice A (m + 1) (m + 1)] w (ReadP n w) := by
  refine (implNumber A (m + 1) (m + 1) B (fieldB m n) w (by simp [fieldB, be_len]) hr hB (by omega) hE hE1 hE2).mono ?_
  rintro e w2 ⟨y, ok, rfl, hR, hb⟩
  obtain ⟨rfl, rfl⟩ := numR_fieldB hf h1 h2 hR
  exact ⟨rfl, hb⟩

set_option maxHeartbeats 1600000 in
set_option maxRecDepth 20000 in
theorem fnPutNumber_walk {a a1 a2 a3 : Addr} (x n : Int) (w : World) (hx : -9223372036854775808 ≤ x) (hx' : x ≤ 9223372036854775807) (h1 : -9223372036854775808 ≤ n) (h2 : n ≤ 9223372036854775807) (hT : Tz8 w)
    (hE : Err w.heap.size w 0 a) (hE1 : Err w.heap.size w 2 a1) (hE2 : Err w.heap.size w 3 a2) (hE3 : Err w.heap.size w 1 a3) :
    Calls Tryd.prog 8 #[.int .i64 x, .int .i64 n] w fun e w' => e = .returned (.bool true) ∧ Below w.heap.size w w' := by
  obtain ⟨s, hs⟩ : ∃ s : Nat, x % 21 = (s : Int) := ⟨(x % 21).toNat, by omega⟩
  have hs20 : s ≤ 20 := by omega
  have HPX := Lib.hid hs
  have hmk : -9223372036854775808 ≤ (2 : Int) + (s : Int) ∧ (2 : Int) + (s : Int) ≤ 9223372036854775807 := by omega
  obtain ⟨hmk1, hmk2⟩ := hmk
  have HFS : Hid (∀ w, Calls Tryd.prog 12 #[.int .i64 (2 + (s : Int)), .int .i64 n] w (FitOP (s + 1) n w)) := Lib.hid (fun w => specFitsO (s + 1) _ n w (by omega) (by omega) h1 h2)
  have HFB : Hid (∀ w, Calls Tryd.prog 17 #[.int .i64 (2 + (s : Int)), .int .i64 n] w (FitP (s + 1) n w)) := Lib.hid (fun w => specFitsB s _ n w (by omega) hs20 h1 h2)
  have HE := Lib.hid hE
  have HE1 := Lib.hid hE1
  have HE2 := Lib.hid hE2
  by_cases hf : fitsO (s + 1) n = true
  · have HPU : Hid (Calls Tryd.prog 21 #[.int .i64 (2 + (s : Int)), .int .i64 n] w (fun e w' => ∃ bs, PutR (s + 1) bs w e w' ∧ (∀ W A B, RB W B A bs → Calls Tryd.prog 15 #[.slice A (s + 1 + 1) (s + 1 + 1)] W (RightP n W)) ∧
        (∀ W A B, RB W B A bs → B ≤ W.heap.size → Err W.heap.size W 0 a → Err W.heap.size W 2 a1 → Err W.heap.size W 3 a2 → Calls Tryd.prog 16 #[.slice A (s + 1 + 1) (s + 1 + 1)] W (ReadP n W)))) := Lib.hid (by
      obtain ⟨N, rfl⟩ : ∃ N : Nat, n = (N : Int) := ⟨n.toNat, by have := fitsO_pos hf; omega⟩
      have hlt : N < 8 ^ (s + 1) := Int.ofNat_lt.1 (fitsO_pos hf).2
      exact (implPutNumber _ _ _ (zzPutNumberOct (s + 1) N _ w (by omega) (by omega) (by omega) hlt (by omega) hT) putR_form).mono fun e w' h => ⟨_, h, fun W A B hr => specNumR_oct s N A B W hs20 hlt hr, fun W A B hr hB e e1 e2 => implNum_oct s N A B W hs20 hf hr hB e e1 e2⟩)
    have HF := Lib.hid hf
    clear hf hT hE hE1 hE2 hE3 hs HFB
    go_enter Tryd.func8, Tryd.ntmps8
    go_wp2_with (go_at_call 11; refine (below_any _ _ _ hx hx' (by omega) (by omega)).mono ?_; rw [HPX.out]; rintro e w' ⟨rfl, rfl⟩)
    refine (HFS.out _).mono ?_
    unfold FitOP
    rw [HF.out]
    rintro e w1 ⟨rfl, rfl⟩
    go_wp2_with fail
    refine HPU.out.mono ?_
    rintro e w1 ⟨bs, ⟨g, hg, rfl, hb, hbel⟩, hSN, hIN⟩
    have HBL := Lib.hid hbel
    have HR := Lib.hid (RB.of_blk hb)
    have HSN := Lib.hid (hSN w1 _ _ HR.out)
    have HIN := Lib.hid (hIN w1 _ _ HR.out hb.lt (HE.out.more hbel) (HE1.out.more hbel) (HE2.out.more hbel))
    clear hb hbel hg hSN hIN
    go_wp2_with fail
    refine HSN.out.mono ?_
    rintro e w2 ⟨rfl, rfl⟩
    go_wp2_with fail
    refine HIN.out.mono ?_
    rintro e w2 ⟨rfl, hb2⟩
    have HB2 : Hid (Below w.heap.size w w2) := Lib.hid (HBL.out.trans (hb2.mono HBL.out.size))
    clear hb2
    go_wp2
    go_ret
    exact ⟨rfl, HB2.out⟩
  · have hf' : fitsO (s + 1) n = false := by simpa using hf
    by_cases hb : fitsB (s + 1) n = true
    · have HPU : Hid (Calls Tryd.prog 21 #[.int .i64 (2 + (s : Int)), .int .i64 n] w (PutR (s + 1) (fieldB (s + 1) n) w)) := Lib.hid (implPutNumber _ _ _ (zzPutNumberBin s _ n w (by omega) hs20 hf' hb h1 h2) putR_form)
      have HSP : Hid (∀ W A B, RB W B A (fieldB (s + 1) n) → Calls Tryd.prog 15 #[.slice A (s + 1 + 1) (s + 1 + 1)] W (RightP n W)) := Lib.hid fun W A B hr => specNumR_bin (s + 1) n A B W (by omega) hb h1 h2 hr
      have HIM : Hid (∀ W A B, RB W B A (fieldB (s + 1) n) → B ≤ W.heap.size → Err W.heap.size W 0 a → Err W.heap.size W 2 a1 → Err W.heap.size W 3 a2 → Calls Tryd.prog 16 #[.slice A (s + 1 + 1) (s + 1 + 1)] W (ReadP n W)) := Lib.hid fun W A B hr hB e e1 e2 => implNum_bin (s + 1) n A B W (by omega) hb h1 h2 hr hB e e1 e2
      have HF := Lib.hid hf'
      have HFBB := Lib.hid hb
      clear hf hf' hb hT hE hE1 hE2 hE3 hs
      go_enter Tryd.func8, Tryd.ntmps8
      go_wp2_with (go_at_call 11; refine (below_any _ _ _ hx hx' (by omega) (by omega)).mono ?_; rw [HPX.out]; rintro e w' ⟨rfl, rfl⟩)
      refine (HFS.out _).mono ?_
      unfold FitOP
      rw [HF.out]
      rintro e w1 ⟨rfl, rfl⟩
      go_wp2_with fail
      refine (HFB.out _).mono ?_
      unfold FitP
      rw [HFBB.out]
      rintro e w1 ⟨rfl, rfl⟩
      go_wp2_with fail
      refine HPU.out.mono ?_
      rintro e w1 ⟨g, hg, rfl, hb, hbel⟩
      have HBL := Lib.hid hbel
      have HR := Lib.hid (RB.of_blk hb)
      have HSN := Lib.hid (HSP.out w1 _ _ HR.out)
      have HIN := Lib.hid (HIM.out w1 _ _ HR.out hb.lt (HE.out.more hbel) (HE1.out.more hbel) (HE2.out.more hbel))
      clear hb hbel hg
      go_wp2_with fail
      refine HSN.out.mono ?_
      rintro e w2 ⟨rfl, rfl⟩
      go_wp2_with fail
      refine HIN.out.mono ?_
      rintro e w2 ⟨rfl, hb2⟩
      have HB2 : Hid (Below w.heap.size w w2) := Lib.hid (HBL.out.trans (hb2.mono HBL.out.size))
      clear hb2
      go_wp2
      go_ret
      exact ⟨rfl, HB2.out⟩
    · have hb' : fitsB (s + 1) n = false := by simpa using hb
      have HPU : Hid (Calls Tryd.prog 21 #[.int .i64 (2 + (s : Int)), .int .i64 n] w (PutX (s + 1) w)) := Lib.hid (implPutNumber _ _ _ (zzPutNumberNo s _ n w (by omega) hs20 hf' hb' h1 h2 hT hE3) putX_form)
      have HF := Lib.hid hf'
      have HFBB := Lib.hid hb'
      clear hf hf' hb hb' hT hE hE1 hE2 hE3 hs
      go_enter Tryd.func8, Tryd.ntmps8
      go_wp2_with (go_at_call 11; refine (below_any _ _ _ hx hx' (by omega) (by omega)).mono ?_; rw [HPX.out]; rintro e w' ⟨rfl, rfl⟩)
      refine (HFS.out _).mono ?_
      unfold FitOP
      rw [HF.out]
      rintro e w1 ⟨rfl, rfl⟩
      go_wp2_with fail
      refine (HFB.out _).mono ?_
      unfold FitP
      rw [HFBB.out]
      rintro e w1 ⟨rfl, rfl⟩
      go_wp2_with fail
      refine HPU.out.mono ?_
      rintro e w1 ⟨g, rfl, hbel⟩
      have HBL := Lib.hid hbel
      clear hbel
      go_wp2
      go_ret
      exact ⟨rfl, HBL.out⟩
end Go.Proofs.YtagjbndcbcepcaaDoor
