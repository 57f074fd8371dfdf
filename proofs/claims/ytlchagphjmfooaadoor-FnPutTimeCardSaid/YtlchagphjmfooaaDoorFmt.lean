/- The walk of formatPAXRecord. -/
import Derived.Test.YtlchagphjmfooaaDoorItoa
import Derived.Test.YtlchagphjmfooaaDoorWrote
namespace Go.Proofs.YtlchagphjmfooaaDoor
open Go.RowKit Go.PlainAid
set_option linter.unusedVariables false

def FmtYes (k v : ByteArray) (w : World) (e : Ending) (w' : World) : Prop := (∃ N s, Wrote s N k v ∧ N ≤ 4294967400 ∧ e = .returned (.tuple #[.string s, .nilIface])) ∧ Below w.heap.size w w'
theorem itoa_at (i : Int) (n : Nat) (w : World) (hn : n ≤ 9223372036854775807) (hi : i = (n : Int)) (ht : Tab w) :
    Calls Tryd.prog 78 #[.int .i64 i] w fun e w' => e = .returned (.string (numB n)) ∧ Below w.heap.size w w' := by
  subst hi
  exact itoa_nat n w hn ht
theorem cat5 (A k v : ByteArray) : A ++ ⟨#[32]⟩ ++ k ++ ⟨#[61]⟩ ++ v ++ ⟨#[10]⟩ = A ++ recR k v := by
  apply ba_ext
  unfold recR
  simp only [app_list, List.append_assoc]
set_option maxRecDepth 20000 in
set_option maxHeartbeats 800000 in
theorem fmt_no {C : Nat} {a : Addr} (k v : ByteArray) (w : World) (hk : k.size ≤ 2147483647) (hv : v.size ≤ 2147483647) (nk : ¬ fc 0 k < k.size) (nv : ¬ fc 0 v < v.size) (hbad : ¬ KeyOk k) (hE : Err C w 0 a) :
    Calls Tryd.prog 61 #[.string k, .string v] w fun e w' => e = .returned (.tuple #[.string ⟨#[]⟩, errV a]) ∧ Below w.heap.size w w' := by
  have HV := Lib.hid (valid_ok k v w (by omega) (by omega) nk nv)
  have HB : Hid (decide (k.size ≠ 0 ∧ ¬ fc 61 k < k.size) = false) := Lib.hid (decide_eq_false hbad)
  have k1 := hE.cell
  unfold errV at *
  clear hE nk nv hbad
  go_enter Tryd.func61, Tryd.ntmps61
  go_wp2_with (go_at_call 62; refine HV.out.mono ?_; rw [HB.out]; rintro e w' ⟨rfl, rfl⟩)
  go_region_held3 (fun w' => w'.cell? ⟨0, 0, none⟩ = some (.iface 226 (.pointer (some a)))) (go_keep) (fail)
  go_wp2
  go_ret2
  exact ⟨rfl, (Below.refl _ _).drew⟩
set_option maxRecDepth 20000 in
set_option maxHeartbeats 1600000 in
theorem fmt_yes (k v : ByteArray) (w : World) (hk : k.size ≤ 2147483647) (hv : v.size ≤ 2147483647) (nk : ¬ fc 0 k < k.size) (nv : ¬ fc 0 v < v.size) (hok : KeyOk k) (hT : Tab w) :
    Calls Tryd.prog 61 #[.string k, .string v] w (FmtYes k v w) := by
  have HV := Lib.hid (valid_ok k v w (by omega) (by omega) nk nv)
  have HB : Hid (decide (k.size ≠ 0 ∧ ¬ fc 61 k < k.size) = true) := Lib.hid (decide_eq_true hok)
  have HT := Lib.hid hT
  clear nk nv hok hT
  obtain ⟨L, hL⟩ : ∃ L, L = (recR k v).size := ⟨_, rfl⟩
  have hL2 : L = k.size + v.size + 3 := by rw [hL, recR_size]
  obtain ⟨A0, h0⟩ : ∃ A0, numB L = A0 := ⟨_, rfl⟩
  have s0 : A0.size = (numL L).length := by rw [← h0, numB_size]
  have l0 := numL_le19 (n := L) (by omega)
  obtain ⟨A1, h1⟩ : ∃ A1, numB (L + A0.size) = A1 := ⟨_, rfl⟩
  have s1 : A1.size = (numL (L + A0.size)).length := by rw [← h1, numB_size]
  have l1 := numL_le19 (n := L + A0.size) (by omega)
  have hw := width_two L (by omega)
  rw [← s0] at hw l0
  rw [← s1] at hw l1
  have u1 : IntKind.i64.wrap ((k.size : Int) + (v.size : Int)) = (k.size : Int) + (v.size : Int) := IntWalk.i64_in _ (by omega)
  have u2 : IntKind.i64.wrap ((k.size : Int) + (v.size : Int) + 3) = (L : Int) := by rw [IntWalk.i64_in _ (by omega)]; omega
  have u3 : IntKind.i64.wrap ((L : Int) + (A0.size : Int)) = ((L + A0.size : Nat) : Int) := by rw [IntWalk.i64_in _ (by omega)]; omega
  have g1 : A1.size + 1 ≤ 9223372036854775807 := by omega
  have g2 : A1.size + 1 + k.size ≤ 9223372036854775807 := by omega
  have g3 : A1.size + 1 + k.size + 1 ≤ 9223372036854775807 := by omega
  have g4 : A1.size + 1 + k.size + 1 + v.size ≤ 9223372036854775807 := by omega
  have g5 : A1.size + 1 + k.size + 1 + v.size + 1 ≤ 9223372036854775807 := by omega
  have z1 : (⟨#[32]⟩ : ByteArray).size = 1 := rfl
  have z2 : (⟨#[61]⟩ : ByteArray).size = 1 := rfl
  have z3 : (⟨#[10]⟩ : ByteArray).size = 1 := rfl
  have HC := Lib.hid (cat5 A1 k v)
  have hb0 : L ≤ 9223372036854775807 := by omega
  have hb1 : L + A0.size ≤ 9223372036854775807 := by omega
  have H0 := Lib.hid h0
  have H1 := Lib.hid h1
  have HS1 := Lib.hid s1
  have HL := Lib.hid hL
  have HL2 := Lib.hid hL2
  clear h0 h1 s0 s1 hL hL2
  by_cases hc : A1.size = A0.size
  · have e1 : ((A1.size + 1 + k.size + 1 + v.size + 1 : Nat) : Int) = ((L + A0.size : Nat) : Int) := by have := HL2.out; omega
    have HC1 := Lib.hid hc
    clear hw hc
    go_enter Tryd.func61, Tryd.ntmps61
    go_wp2_with (first
      | (go_at_call 62; refine HV.out.mono ?_; rw [HB.out]; rintro e w' ⟨rfl, rfl⟩)
      | fail)
    refine (itoa_nat L _ hb0 HT.out).mono ?_
    rw [H0.out]
    rintro e w1 ⟨rfl, hb1'⟩
    have HB1 := Lib.hid hb1'
    have HT1 := Lib.hid (tab_below HT.out hb1')
    clear hb1'
    go_wp2_with fail
    refine (itoa_nat (L + A0.size) _ hb1 HT1.out).mono ?_
    rw [H1.out]
    rintro e w2 ⟨rfl, hb2'⟩
    have HB2 : Hid (Below w.heap.size w w2) := Lib.hid (HB1.out.trans (hb2'.mono HB1.out.size))
    clear hb2'
    go_wp2_with fail
    (try rw [HC.out])
    go_ret2
    refine ⟨⟨L + A0.size, A1 ++ recR k v, ⟨?_, ?_⟩, by have := HL2.out; omega, by rw [← HC.out] <;> rfl⟩, HB2.out⟩
    · rw [H1.out]
    · have e3 := HS1.out
      have e4 := HC1.out
      have e5 := HL.out
      omega
  · obtain ⟨c1, c2⟩ := hw.resolve_left hc
    obtain ⟨A2, h2⟩ : ∃ A2, numB (L + A1.size) = A2 := ⟨_, rfl⟩
    have s2 : A2.size = A1.size := by rw [← h2, numB_size, c1]; exact c2
    have HS2 := Lib.hid s2
    have H2 := Lib.hid h2
    have HC2 := Lib.hid (cat5 A2 k v)
    have HN2 : Hid ((numL (L + A1.size)).length = A1.size) := Lib.hid (by rw [c1]; exact c2)
    have e1 : (((A1.size + 1 + k.size + 1 + v.size + 1 : Nat) : Int) == ((L + A0.size : Nat) : Int)) = false := by rw [beq_eq_false_iff_ne]; have := HL2.out; omega
    have e2 : (((A1.size + 1 + k.size + 1 + v.size + 1 : Nat) : Int) != ((L + A0.size : Nat) : Int)) = true := by rw [bne, e1]; rfl
    have e3 : A1.size + 1 + k.size + 1 + v.size + 1 = L + A1.size := by have := HL2.out; omega
    have HE3 := Lib.hid e3
    have hb2 : L + A1.size ≤ 9223372036854775807 := by omega
    have g6 : A2.size + 1 ≤ 9223372036854775807 := by omega
    have g7 : A2.size + 1 + k.size ≤ 9223372036854775807 := by omega
    have g8 : A2.size + 1 + k.size + 1 ≤ 9223372036854775807 := by omega
    have g9 : A2.size + 1 + k.size + 1 + v.size ≤ 9223372036854775807 := by omega
    have g10 : A2.size + 1 + k.size + 1 + v.size + 1 ≤ 9223372036854775807 := by omega
    clear hw hc h2 s2 c1 c2 e3
    go_enter Tryd.func61, Tryd.ntmps61
    go_wp2_with (first
      | (go_at_call 62; refine HV.out.mono ?_; rw [HB.out]; rintro e w' ⟨rfl, rfl⟩)
      | fail)
    refine (itoa_nat L _ hb0 HT.out).mono ?_
    rw [H0.out]
    rintro e w1 ⟨rfl, hb1'⟩
    have HB1 := Lib.hid hb1'
    have HT1 := Lib.hid (tab_below HT.out hb1')
    clear hb1'
    go_wp2_with fail
    refine (itoa_nat (L + A0.size) _ hb1 HT1.out).mono ?_
    rw [H1.out]
    rintro e w2 ⟨rfl, hb2'⟩
    have HB2 : Hid (Below w.heap.size w w2) := Lib.hid (HB1.out.trans (hb2'.mono HB1.out.size))
    have HT2 := Lib.hid (tab_below HT1.out hb2')
    clear hb2'
    go_wp2_with fail
    refine (itoa_at _ (L + A1.size) _ hb2 (by have := HE3.out; omega) HT2.out).mono ?_
    rw [H2.out]
    rintro e w3 ⟨rfl, hb3'⟩
    have HB3 : Hid (Below w.heap.size w w3) := Lib.hid (HB2.out.trans (hb3'.mono HB2.out.size))
    clear hb3'
    go_wp2_with fail
    (try rw [HC2.out])
    go_ret2
    refine ⟨⟨L + A1.size, A2 ++ recR k v, ⟨?_, ?_⟩, by have := HL2.out; omega, by rw [← HC2.out] <;> rfl⟩, HB3.out⟩
    · rw [H2.out]
    · have e4 := HN2.out
      have e5 := HL.out
      omega
end Go.Proofs.YtlchagphjmfooaaDoor
