/- The law FnPutText: its own walk. -/
import Derived.Test.YtiahifohkhdmdaaDoorPutLaw
namespace Go.Proofs.YtiahifohkhdmdaaDoor
open Go.RowKit Go.PlainAid
set_option linter.unusedVariables false

theorem padS_eq (s : ByteArray) (n : Nat) (h : s.size ≤ n) : padS s n = s.data.toList ++ zbs (n - s.size) := by
  have hl : s.data.toList.length = s.size := (Lib.size_eq s).symm
  unfold padS splice
  rw [List.take_of_length_le (l := s.data.toList) (by omega), List.take_zero, List.nil_append, Nat.zero_add, hl]
  simp [zbs]
theorem byt_padS (s : ByteArray) (n i : Nat) (h : s.size ≤ n) (hi : i < s.size) : byt (padS s n) i = bt s i := by
  have hl : s.data.toList.length = s.size := (Lib.size_eq s).symm
  rw [padS_eq s n h, ← get_bt s i hi]
  unfold byt
  rw [List.getD_eq_getElem?_getD, List.getElem?_append_left (by omega), List.getElem?_eq_getElem (by omega)]
  rfl
theorem byt_padS_end (s : ByteArray) (n : Nat) (h : s.size < n) : byt (padS s n) s.size = 0 := by
  have hl : s.data.toList.length = s.size := (Lib.size_eq s).symm
  rw [padS_eq s n (by omega)]
  unfold byt
  rw [List.getD_eq_getElem?_getD, List.getElem?_append_right (by omega), hl, Nat.sub_self]
  unfold zbs
  rw [List.getElem?_replicate]
  split <;> rfl
theorem txt_padS (s : ByteArray) (n : Nat) (h : s.size ≤ n) (hz : ∀ k, k < s.size → bt s k ≠ 0) : mkS (txt (padS s n)) = s := by
  have hl : s.data.toList.length = s.size := (Lib.size_eq s).symm
  have e : fz (padS s n) = s.size := by
    rcases Nat.lt_or_ge s.size n with hlt | hge
    · exact fz_eq _ _ (by rw [length_padS]; omega) (byt_padS_end s n hlt) (fun i hi => by rw [byt_padS s n i h hi]; exact hz i hi)
    · have h2 := fz_all (padS s n) (fun i hi => by rw [length_padS] at hi; rw [byt_padS s n i h (by omega)]; exact hz i (by omega))
      rw [length_padS] at h2
      omega
  unfold txt
  rw [e, padS_eq s n h, ← hl, List.take_left]
  rfl

set_option maxRecDepth 20000 in
set_option maxHeartbeats 800000 in
theorem implPutYes (s : ByteArray) (n : Nat) (w : World) (hn : n ≤ 512) (hs : s.size ≤ n) :
    Calls Tryd.prog 8 #[.int .i64 n, .string s] w (PutYes s n w) := by
  go_enter Tryd.func8, Tryd.ntmps8
  go_wp2_with fail
  refine (zzPutYes s n _ hn hs).mono ?_
  rintro e w2 ⟨g, h0, rfl, h1, h2⟩
  have H1 := Lib.hid h1
  clear h1
  go_wp2
  go_ret2
  exact ⟨g, h0, rfl, H1.out, h2⟩

set_option maxRecDepth 20000 in
set_option maxHeartbeats 800000 in
theorem implPutNo (s : ByteArray) (n : Nat) (u : TypeId) (pp : Addr) (w : World) (hn1 : 1 ≤ n) (hn : n ≤ 512) (hs : n < s.size) (hm : s.size ≤ 4611686018427387904)
    (hgl : 0 < w.heap.size) (hE : w.cell? ⟨0, 0, none⟩ = some (.iface u (.pointer (some pp)))) :
    Calls Tryd.prog 8 #[.int .i64 n, .string s] w (PutNo n w) := by
  go_enter Tryd.func8, Tryd.ntmps8
  go_wp2_with fail
  refine (zzPutNo s n u pp _ hn1 hn hs hm hgl hE).mono ?_
  rintro e w2 ⟨a, rfl, h2⟩
  clear hE
  go_wp2
  go_ret2
  exact ⟨a, rfl, h2⟩

set_option maxRecDepth 20000 in
set_option maxHeartbeats 1600000 in
theorem fnPutText_walk (size : Int) (s : ByteArray) (u : TypeId) (pp : Addr) (w : World) (l1 : -9223372036854775808 ≤ size) (l2 : size ≤ 9223372036854775807) (hmax : s.size ≤ 9223372036854775807)
    (hgl : 0 < w.heap.size) (hE : w.cell? ⟨0, 0, none⟩ = some (.iface u (.pointer (some pp)))) :
    Calls Tryd.prog 3 #[.int .i64 size, .string s] w fun e w' => e = .returned (.bool true) ∧ Below w.heap.size w w' := by
  have HE := Lib.hid hE
  clear hE
  by_cases hbig : 2147483647 < s.size
  · go_enter Tryd.func3, Tryd.ntmps3
    go_wp2
    go_ret
    exact ⟨rfl, Below.refl _ _⟩
  have m1 := Int.emod_nonneg size (show (512 : Int) ≠ 0 by omega)
  have m2 := Int.emod_lt_of_pos size (show (0 : Int) < 512 by omega)
  obtain ⟨n, hn0⟩ : ∃ n : Nat, 1 + size % 512 = (n : Int) := ⟨(1 + size % 512).toNat, by omega⟩
  have hn1 : 1 ≤ n := by omega
  have hn : n ≤ 512 := by omega
  have HN0 := Lib.hid hn0
  clear hn0
  go_enter Tryd.func3, Tryd.ntmps3
  go_wp2_with (go_at_call 6; refine (below_any _ _ _ (by omega) (by omega) (by omega) (by omega)).mono ?_; rintro e w' ⟨rfl, rfl⟩)
  rw [HN0.out]
  clear HN0 m1 m2
  rcases Nat.lt_or_ge n s.size with hlt | hge
  · refine (specPutNo s n _ (by omega) hlt).mono ?_
    rintro e w' ⟨rfl, rfl⟩
    go_wp2_with fail
    refine (implPutNo s n u pp _ hn1 hn hlt (by omega) hgl HE.out).mono ?_
    rintro e w2 ⟨a, rfl, hb⟩
    go_wp2
    go_ret
    exact ⟨rfl, hb⟩
  · refine (specPutYes s n _ (by omega) hge).mono ?_
    rintro e w1 ⟨rfl, hB1, hbe1⟩
    have HB1 := Lib.hid hB1
    have HBE1 := Lib.hid hbe1
    clear hB1 hbe1
    go_wp2_with fail
    refine (implPutYes s n _ hn hge).mono ?_
    rintro e w2 ⟨g, hg, rfl, hB2, hbe2⟩
    have HR1 := Lib.hid (RB.of_blk (HB1.out.below hbe2 HB1.out.lt))
    have HR2 := Lib.hid (RB.of_blk hB2)
    have HLT := Lib.hid hB2.lt
    have HBE2 := Lib.hid (HBE1.out.trans (hbe2.mono HBE1.out.size))
    clear hB2 hbe2
    go_wp2_with fail
    refine (same_yes _ _ n n n _ _ (padS s n) _ (length_padS s n) HR2.out HR1.out).mono ?_
    rintro e w' ⟨rfl, rfl⟩
    go_wp2_with fail
    refine (hasNUL s _ (by omega)).mono ?_
    rintro e w' ⟨rfl | ⟨rfl, hno⟩, rfl⟩
    · go_wp2
      go_ret
      exact ⟨rfl, HBE2.out⟩
    · have HT := Lib.hid (txt_padS s n hge hno)
      clear hno
      go_wp2_with (first
        | (go_at_call 20; refine (implText _ n n _ (padS s n) _ (length_padS s n) HR2.out HLT.out (by omega)).mono ?_; rw [HT.out]; rintro e w3 ⟨rfl, hb3⟩; have HB3 := Lib.hid (HBE2.out.trans (hb3.mono HBE2.out.size)); clear hb3)
        | (go_at_call 11; go_in))
      go_ret
      exact ⟨rfl, HB3.out⟩
end Go.Proofs.YtiahifohkhdmdaaDoor
