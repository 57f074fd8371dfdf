/- The law FnSplit: the callers of splitUSTARPath and the law's own walk. -/
import Derived.Test.YtiahifohkhdmdaaSplitLaw
import Derived.Laws.Concat
namespace Go.Proofs.Ytiahifohkhdmdaa
open Go.RowKit Go.PlainAid
set_option linter.unusedVariables false

set_option maxRecDepth 20000 in
set_option maxHeartbeats 400000 in
theorem zzSplit (s : ByteArray) (w : World) (h100 : 100 < s.size) (hs : s.size ≤ 2147483647) (hA : Asc s) :
    Calls Try.prog 34 #[.string s] w (Parted s w) := by
  have HA := Lib.hid hA
  clear hA
  go_enter Try.func34, Try.ntmps34
  go_wp2_with fail
  refine (splitUSTAR s _ h100 hs HA.out).mono ?_
  rintro e w' ⟨hb, ⟨i, hi, rfl⟩ | ⟨hno, rfl⟩⟩
  · have HI := Lib.hid hi
    clear hi
    go_wp2
    go_ret3
    exact ⟨hb, .inl ⟨i, HI.out, rfl⟩⟩
  · have HNO := Lib.hid hno
    clear hno
    go_wp2
    go_ret3
    exact ⟨hb, .inr ⟨HNO.out, rfl⟩⟩

set_option maxRecDepth 20000 in
set_option maxHeartbeats 400000 in
theorem implSplit (s : ByteArray) (w : World) (h100 : 100 < s.size) (hs : s.size ≤ 2147483647) (hA : Asc s) :
    Calls Try.prog 24 #[.string s] w (Parted s w) := by
  have HA := Lib.hid hA
  clear hA
  go_enter Try.func24, Try.ntmps24
  go_wp2_with fail
  refine (zzSplit s _ h100 hs HA.out).mono ?_
  rintro e w' ⟨hb, ⟨i, hi, rfl⟩ | ⟨hno, rfl⟩⟩
  · have HI := Lib.hid hi
    clear hi
    go_wp2
    go_ret3
    exact ⟨hb, .inl ⟨i, HI.out, rfl⟩⟩
  · have HNO := Lib.hid hno
    clear hno
    go_wp2
    go_ret3
    exact ⟨hb, .inr ⟨HNO.out, rfl⟩⟩

theorem bt_get (s : ByteArray) (i : Nat) (h : i < s.size) (v : UInt8) (hv : bt s i = (v.toNat : Int)) : s.data[i]'h = v := by
  have e : ((s[i]'h).toNat : Int) = bt s i := get_bt s i h
  rw [hv] at e
  exact UInt8.toNat_inj.mp (by exact_mod_cast e)

theorem rejoin (s : ByteArray) (i : Nat) (h : Sp s i) : s.extract 0 i ++ ⟨#[47]⟩ ++ s.extract (i + 1) s.size = s := by
  unfold Sp at h
  obtain ⟨_, _, hi, h47, _, _⟩ := h
  have hc := bt_get s i hi 47 h47
  have hd : s.size = s.data.size := rfl
  apply ByteArray.ext
  apply Array.ext
  · simp only [ByteArray.data_append, ByteArray.data_extract, Array.size_append, Array.size_extract]
    simp
    omega
  · intro k h1 h2
    simp only [ByteArray.data_append, ByteArray.data_extract, Array.getElem_append, Array.size_append, Array.size_extract, Array.getElem_extract]
    split
    · split
      · congr 1; omega
      · rename_i g1 g2
        have hk : k = i := by simp at g1 g2; omega
        subst hk
        simp [hc]
    · rename_i g1
      congr 1
      simp at g1 ⊢
      omega

set_option maxRecDepth 20000 in
set_option maxHeartbeats 1600000 in
theorem fnSplit_walk (s : ByteArray) (w : World) (hmax : s.size ≤ 9223372036854775807) :
    Calls Try.prog 10 #[.string s] w fun e w' => e = .returned (.bool true) ∧ Below w.heap.size w w' := by
  by_cases hbig : 2147483647 < s.size
  · go_enter Try.func10, Try.ntmps10
    go_wp2
    go_ret
    exact ⟨rfl, Below.refl _ _⟩
  have hs : s.size ≤ 2147483647 := by omega
  by_cases hA : Asc s
  case neg =>
    have HE := Lib.hid (asc_false hA)
    clear hA
    go_enter Try.func10, Try.ntmps10
    go_wp2_with fail
    refine (specASCII s _ (by omega)).mono ?_
    rw [HE.out]
    rintro e w' ⟨rfl, rfl⟩
    go_wp2
    go_ret
    exact ⟨rfl, Below.refl _ _⟩
  have HE := Lib.hid (asc_true hA)
  have HA := Lib.hid hA
  clear hA
  by_cases h100 : s.size ≤ 100
  · go_enter Try.func10, Try.ntmps10
    go_wp2_with fail
    refine (specASCII s _ (by omega)).mono ?_
    rw [HE.out]
    rintro e w' ⟨rfl, rfl⟩
    go_wp2
    go_ret
    exact ⟨rfl, Below.refl _ _⟩
  have h100' : 100 < s.size := by omega
  go_enter Try.func10, Try.ntmps10
  go_wp2_with fail
  refine (specASCII s _ (by omega)).mono ?_
  rw [HE.out]
  rintro e w' ⟨rfl, rfl⟩
  go_wp2_with fail
  refine (implSplit s _ h100' hs HA.out).mono ?_
  rintro e w' ⟨hb, ⟨i, hi, rfl⟩ | ⟨hno, rfl⟩⟩
  · have hj := rejoin s i hi
    have hspec := specSplit s i w' (by omega) (by unfold Sp at hi; omega)
    rw [spB_true hi] at hspec
    have hx0 : (s.extract 0 i).size = i := by rw [ByteArray.size_extract]; unfold Sp at hi; omega
    have hy0 : (s.extract (i + 1) s.size).size = s.size - i - 1 := by rw [ByteArray.size_extract]; unfold Sp at hi; omega
    have hi155 : i ≤ 155 := by unfold Sp at hi; omega
    clear hi
    obtain ⟨x, hx⟩ : ∃ x, s.extract 0 i = x := ⟨_, rfl⟩
    obtain ⟨y, hy⟩ : ∃ y, s.extract (i + 1) s.size = y := ⟨_, rfl⟩
    rw [hx] at hj hx0 ⊢
    rw [hy] at hj hy0 ⊢
    clear hx hy
    have a1 := fun w => run_string_add_sum (P := Try.prog) w x ⟨#[47]⟩ (by rw [hx0]; show i + 1 ≤ _; omega)
    obtain ⟨q, hq⟩ : ∃ q, x ++ (⟨#[47]⟩ : ByteArray) = q := ⟨_, rfl⟩
    have hq0 : q.size = i + 1 := by rw [← hq, ByteArray.size_append', hx0]; rfl
    rw [hq] at hj a1
    clear hq
    have a2 := fun w => run_string_add_sum (P := Try.prog) w q y (by rw [hq0, hy0]; omega)
    rw [hj] at a2
    have HSPEC := Lib.hid hspec
    have HX := Lib.hid hx0
    clear hj hspec hx0 hy0 hq0
    go_wp2_with fail
    rw [HX.out]
    refine HSPEC.out.mono ?_
    rintro e w'' ⟨rfl, rfl⟩
    go_wp2
    go_ret
    exact ⟨rfl, hb⟩
  · have HNO := Lib.hid hno
    clear hno
    go_wp2_with fail
    refine (specSplits s _ (by omega) HNO.out).mono ?_
    rintro e w'' ⟨rfl, rfl⟩
    go_wp2
    go_ret
    exact ⟨rfl, hb⟩
end Go.Proofs.Ytiahifohkhdmdaa
