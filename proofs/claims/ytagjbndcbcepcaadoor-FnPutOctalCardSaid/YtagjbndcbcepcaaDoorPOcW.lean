/- The law FnPutOctal: its own walk. -/
import Derived.Test.YtagjbndcbcepcaaDoorPOc
import Derived.Test.YtagjbndcbcepcaaDoorOctS2
import Derived.Test.YtagjbndcbcepcaaDoorBelow
namespace Go.Proofs.YtagjbndcbcepcaaDoor
open Go.RowKit Go.PlainAid
set_option linter.unusedVariables false

set_option maxHeartbeats 1600000 in
set_option maxRecDepth 20000 in
theorem fnPutOctal_walk {a a1 a2 a3 : Addr} (x n : Int) (w : World) (hx : -9223372036854775808 ≤ x) (hx' : x ≤ 9223372036854775807) (h1 : -9223372036854775808 ≤ n) (h2 : n ≤ 9223372036854775807) (hT : Tz8 w)
    (hE : Err w.heap.size w 0 a) (hE1 : Err w.heap.size w 2 a1) (hE2 : Err w.heap.size w 3 a2) (hE3 : Err w.heap.size w 1 a3) :
    Calls Tryd.prog 7 #[.int .i64 x, .int .i64 n] w fun e w' => e = .returned (.bool true) ∧ Below w.heap.size w w' := by
  obtain ⟨s, hs⟩ : ∃ s : Nat, x % 21 = (s : Int) := ⟨(x % 21).toNat, by omega⟩
  have hs20 : s ≤ 20 := by omega
  have HPX := Lib.hid hs
  have hmk : -9223372036854775808 ≤ (2 : Int) + (s : Int) ∧ (2 : Int) + (s : Int) ≤ 9223372036854775807 := by omega
  obtain ⟨hmk1, hmk2⟩ := hmk
  have HFS : Hid (∀ w, Calls Tryd.prog 12 #[.int .i64 (2 + (s : Int)), .int .i64 n] w (FitOP (s + 1) n w)) := Lib.hid (fun w => specFitsO (s + 1) _ n w (by omega) (by omega) h1 h2)
  by_cases hf : fitsO (s + 1) n = true
  · obtain ⟨N, rfl⟩ : ∃ N : Nat, n = (N : Int) := ⟨n.toNat, by have := fitsO_pos hf; omega⟩
    have hlt : N < 8 ^ (s + 1) := Int.ofNat_lt.1 (fitsO_pos hf).2
    have HPU : Hid (Calls Tryd.prog 20 #[.int .i64 (2 + (s : Int)), .int .i64 (N : Int)] w (PutR (s + 1) (od (s + 1) (N : Int) ++ [0]) w)) :=
      Lib.hid (implPutOctal _ _ _ (zzPutOctalYes (s + 1) N _ w (by omega) (by omega) (by omega) hlt (by omega) hT) putR_form)
    have HF := Lib.hid hf
    have HE := Lib.hid hE
    have HE1 := Lib.hid hE1
    have HE2 := Lib.hid hE2
    have HFL : Hid ((od (s + 1) (N : Int) ++ [0]).length = s + 1 + 1) := Lib.hid (by simp [od_len])
    have HVN : Hid (v8 0 (od (s + 1) (N : Int)) = N) := Lib.hid (by rw [od_v8 N (s + 1) 0, Nat.mod_eq_of_lt hlt]; omega)
    clear hf hT hE hE1 hE2 hE3 hs hlt
    go_enter Tryd.func7, Tryd.ntmps7
    go_wp2_with (go_at_call 11; refine (below_any _ _ _ hx hx' (by omega) (by omega)).mono ?_; rw [HPX.out]; rintro e w' ⟨rfl, rfl⟩)
    refine HPU.out.mono ?_
    rintro e w1 ⟨g, hg, rfl, hb, hbel⟩
    have HB := Lib.hid hb
    have HBL := Lib.hid hbel
    have HR := Lib.hid (RB.of_blk hb)
    have hsz : g + 1 ≤ w1.heap.size := hb.lt
    have HE' := Lib.hid (HE.out.more hbel)
    have HE1' := Lib.hid (HE1.out.more hbel)
    have HE2' := Lib.hid (HE2.out.more hbel)
    clear hb hbel hg
    go_wp2_with fail
    refine (HFS.out _).mono ?_
    unfold FitOP
    rw [HF.out]
    rintro e w2 ⟨rfl, rfl⟩
    go_wp2_with fail
    refine (specOctalG _ (s + 1 + 1) (s + 1 + 1) _ (od (s + 1) (N : Int) ++ [0]) _ HFL.out HR.out (Nat.le_refl _) (by omega)).mono ?_
    rintro e w2 ⟨⟨X, V, rfl, hG⟩, rfl⟩
    obtain ⟨rfl, hX⟩ := octSG_good hG rfl (od_all8 _ _) (fun h => by have := congrArg List.length h; rw [od_len, List.length_nil] at this; omega) (by rw [od_len]; omega) (by simp) (fun c hc => .inr (by simpa using hc))
    rw [HVN.out] at hX
    subst hX
    clear hG
    go_wp2_with fail
    refine (implOctal _ (s + 1 + 1) (s + 1 + 1) _ (od (s + 1) (N : Int) ++ [0]) _ HFL.out HR.out hsz (by omega) HE'.out HE1'.out HE2'.out).mono ?_
    rintro e w2 ⟨y, ok, rfl, hR, hb2⟩
    obtain ⟨rfl, rfl⟩ := octR_field (by omega) (by omega) HF.out (by simp) (fun c hc => .inr (by simpa using hc)) hR
    have HB2 : Hid (Below w.heap.size w w2) := Lib.hid (HBL.out.trans (hb2.mono HBL.out.size))
    clear hR hb2
    go_wp2
    go_ret
    exact ⟨rfl, HB2.out⟩
  · have hf' : fitsO (s + 1) n = false := by simpa using hf
    have HPU : Hid (Calls Tryd.prog 20 #[.int .i64 (2 + (s : Int)), .int .i64 n] w (PutX (s + 1) w)) :=
      Lib.hid (implPutOctal _ _ _ (zzPutOctalNo (s + 1) _ n w (by omega) (by omega) (by omega) hf' h1 h2 hT hE3) putX_form)
    have HF := Lib.hid hf'
    clear hf hf' hT hE hE1 hE2 hE3 hs
    go_enter Tryd.func7, Tryd.ntmps7
    go_wp2_with (go_at_call 11; refine (below_any _ _ _ hx hx' (by omega) (by omega)).mono ?_; rw [HPX.out]; rintro e w' ⟨rfl, rfl⟩)
    refine HPU.out.mono ?_
    rintro e w1 ⟨g, rfl, hbel⟩
    have HBL := Lib.hid hbel
    clear hbel
    go_wp2_with fail
    refine (HFS.out _).mono ?_
    unfold FitOP
    rw [HF.out]
    rintro e w2 ⟨rfl, rfl⟩
    go_wp2
    go_ret
    exact ⟨rfl, HBL.out⟩
end Go.Proofs.YtagjbndcbcepcaaDoor
