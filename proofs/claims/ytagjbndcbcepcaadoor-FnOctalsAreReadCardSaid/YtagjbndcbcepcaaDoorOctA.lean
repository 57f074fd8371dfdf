/- The law FnOctalsAreRead. -/
import Derived.Test.YtagjbndcbcepcaaDoorPutOW
import Derived.Test.YtagjbndcbcepcaaDoorOctI
import Derived.Deep.Grids
namespace Go.Proofs.YtagjbndcbcepcaaDoor
open Go.RowKit Go.PlainAid
set_option linter.unusedVariables false

theorem bools_of_trod {H : Type} {enc : TypeId × Value → H} {P : Program} {w : World} {base : Nat} {held : Bool} {t e : TypeId} {fuel : Nat} {a : Option Addr} {len cap : Nat} {x : DataW H × List MemPlace} (ht : P.underlying t = some (.slice e)) (he : P.underlying e = some .bool) (hc : P.cellsOf e = 1)
    (h : DataW.trod enc P w base (fun _ => true) held fuel t (Value.slice a len cap).cells.toList = some x) : ∃ K : Nat → Bool, BoolRow w w.heap.size a len K ∧ len ≤ cap ∧ cap ≤ maxLen := by
  rcases Go.Deep.open_bools ht he hc h with ⟨hcs, _⟩ | ⟨ad, l, c, K, hcs, _, hl, hm, _, hcell⟩
  · simp [Value.cells] at hcs
    obtain ⟨rfl, rfl, rfl⟩ := hcs
    exact ⟨fun _ => false, fun i hi => by omega, by omega, by decide⟩
  · simp [Value.cells] at hcs
    obtain ⟨rfl, rfl, rfl⟩ := hcs
    refine ⟨K, fun i hi => ?_, hl, hm⟩
    obtain ⟨b, off, spot⟩ := ad
    have h0 := hcell 0 (by omega)
    have hs : spot = none := by simpa [Addr.add] using World.cell?_spot h0
    subst hs
    refine ⟨b, off, rfl, ?_, fun i hi => ?_⟩
    · have := block_lt_of_cell h0
      simpa [Addr.add] using this
    · have hci := hcell i (by omega)
      rw [Addr.add_lit] at hci
      exact hci

set_option maxHeartbeats 3200000 in
set_option maxRecDepth 20000 in
theorem fnOctals_walk {a a1 a2 : Addr} (x n : Int) (A : Option Addr) (len cap : Nat) (K : Nat → Bool) (w : World) (hx : -9223372036854775808 ≤ x) (hx' : x ≤ 9223372036854775807) (h1 : -9223372036854775808 ≤ n) (h2 : n ≤ 9223372036854775807)
    (hK : BoolRow w w.heap.size A len K) (hlc : len ≤ cap) (hm : cap ≤ 9223372036854775807)
    (hE : Err w.heap.size w 0 a) (hE1 : Err w.heap.size w 2 a1) (hE2 : Err w.heap.size w 3 a2) :
    Calls Tryd.prog 4 #[.int .i64 x, .int .i64 n, .slice A len cap] w fun e w' => e = .returned (.bool true) ∧ Below w.heap.size w w' := by
  have HK := Lib.hid hK
  have HE := Lib.hid hE
  have HE1 := Lib.hid hE1
  have HE2 := Lib.hid hE2
  clear hK hE hE1 hE2
  by_cases hbig : 2147483647 < len
  · go_enter Tryd.func4, Tryd.ntmps4
    go_wp2
    go_ret
    exact ⟨rfl, Below.refl _ _⟩
  obtain ⟨s, hs⟩ : ∃ s : Nat, x % 20 = (s : Int) := ⟨(x % 20).toNat, by omega⟩
  have hs19 : s ≤ 19 := by omega
  have HPX := Lib.hid hs
  clear hs
  have HFI : Hid (∀ w, Calls Tryd.prog 14 #[.int .i64 (3 + (s : Int)), .int .i64 n] w (FitOP (s + 2) n w)) := Lib.hid (fun w => implFitsO (s + 2) _ n w (by omega) (by omega) (by omega) h1 h2)
  have HFS : Hid (∀ w, Calls Tryd.prog 12 #[.int .i64 (3 + (s : Int)), .int .i64 n] w (FitOP (s + 2) n w)) := Lib.hid (fun w => specFitsO (s + 2) _ n w (by omega) (by omega) h1 h2)
  have HLA : Hid (len ≤ 2147483647) := Lib.hid (by omega)
  go_enter Tryd.func4, Tryd.ntmps4
  go_wp2_with (go_at_call 11; refine (below_any _ _ _ hx hx' (by omega) (by omega)).mono ?_; rw [HPX.out]; rintro e w' ⟨rfl, rfl⟩)
  go_loopw [7] (fun v7 wr => ∃ T : Nat, 1 ≤ T ∧ T ≤ 3 ∧ v7 = .int .i64 T ∧ Hid (Below w.heap.size w wr)) (fun v7 _ => 3 - (intOf v7).toNat)
  case atStart => exact ⟨1, by omega, by omega, rfl, Lib.hid (Below.refl _ _)⟩
  case round =>
    obtain ⟨T, hT1, hT3, rfl, hW⟩ := hrel
    by_cases hT : T ≤ 2
    · have hT' : (T : Int) ≤ 2 := by omega
      have HFT : Hid (∀ w, Calls Tryd.prog 12 #[.int .i64 (3 + (s : Int) + 1 - (T : Int)), .int .i64 n] w (FitOP (s + 3 - T) n w)) := Lib.hid (fun w => specFitsO (s + 3 - T) _ n w (by omega) (by omega) h1 h2)
      by_cases hf : fitsO (s + 3 - T) n = true
      · have HF := Lib.hid hf
        have h0 := (fitsO_pos hf).1
        clear hf
        go_wp2_with fail
        refine (HFT.out _).mono ?_
        unfold FitOP
        rw [HF.out]
        rintro e w1 ⟨rfl, rfl⟩
        go_wp2_with fail
        refine (specPutOctal (s + 3 - T) T _ _ n A len cap K _ (by omega) rfl (by omega) (by omega) h0 h2 (fun i hi => ?_) HLA.out hlc).mono ?_
        · obtain ⟨b, off, e1, e2, e3⟩ := HK.out.below hW.out (Nat.le_refl _) i hi
          exact ⟨b, off, e1, Nat.lt_of_lt_of_le e2 hW.out.size, e3⟩
        rintro e w2 ⟨rfl, ⟨t, ht1, ht2, hb⟩, hbel⟩
        have HB2 : Hid (Below w.heap.size w w2) := Lib.hid (hW.out.trans (hbel.mono hW.out.size))
        have HR := Lib.hid (RB.of_blk hb)
        have hsz := hb.lt
        have HE' := Lib.hid (HE.out.more HB2.out)
        have HE1' := Lib.hid (HE1.out.more HB2.out)
        have HE2' := Lib.hid (HE2.out.more HB2.out)
        have HL : Hid ((od (s + 3 - T) n ++ t).length = s + 3 - T + T) := Lib.hid (by rw [List.length_append, od_len, ht1])
        have htne : t ≠ [] := fun h => by rw [h] at ht1; simp at ht1; omega
        have HT := Lib.hid (And.intro htne ht2)
        clear hb hbel ht2 htne
        go_wp2_with fail
        refine (implOctal _ (s + 3 - T + T) (s + 3 - T + T) _ (od (s + 3 - T) n ++ t) _ HL.out HR.out hsz (by omega) HE'.out HE1'.out HE2'.out).mono ?_
        rintro e w3 ⟨y, ok, rfl, hR, hb3⟩
        obtain ⟨rfl, rfl⟩ := octR_field (by omega) (by omega) HF.out HT.out.1 HT.out.2 hR
        have HB3 : Hid (Below w.heap.size w w3) := Lib.hid (HB2.out.trans (hb3.mono HB2.out.size))
        clear hR hb3
        go_wp2
        go_roundw
        case rel => exact ⟨T + 1, by omega, by omega, by go_num, HB3⟩
        case measure => simp [intOf] <;> omega
      · have HF : Hid (fitsO (s + 3 - T) n = false) := Lib.hid (by simpa using hf)
        clear hf
        go_wp2_with fail
        refine (HFT.out _).mono ?_
        unfold FitOP
        rw [HF.out]
        rintro e w1 ⟨rfl, rfl⟩
        go_wp2
        go_roundw
        case rel => exact ⟨T + 1, by omega, by omega, by go_num, hW⟩
        case measure => simp [intOf] <;> omega
    · have hT' : ¬ (T : Int) ≤ 2 := by omega
      go_wp2_with fail
      refine (HFI.out _).mono ?_
      unfold FitOP
      rintro e w1 ⟨rfl, rfl⟩
      go_wp2_with fail
      refine (HFS.out _).mono ?_
      unfold FitOP
      rintro e w1 ⟨rfl, rfl⟩
      obtain ⟨b, hb⟩ : ∃ b, b = fitsO (s + 2) n := ⟨_, rfl⟩
      rw [← hb]
      clear hb
      cases b with
      | true =>
        go_wp2
        go_ret
        exact ⟨rfl, hW.out⟩
      | false =>
        go_wp2
        go_ret
        exact ⟨rfl, hW.out⟩
end Go.Proofs.YtagjbndcbcepcaaDoor
