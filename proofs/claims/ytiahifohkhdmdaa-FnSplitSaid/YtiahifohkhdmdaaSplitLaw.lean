/- The law FnSplit: the walk of splitUSTARPath and of the law. -/
import Derived.Test.YtiahifohkhdmdaaSplit
import Derived.Deep.RegionHeld3
namespace Go.Proofs.Ytiahifohkhdmdaa
open Go.RowKit Go.PlainAid

theorem bt_extract (s : ByteArray) (L j : Nat) (hL : L ≤ s.size) (hj : j < L) : (((s.extract 0 L).data[j]!).toNat : Int) = bt s j := by
  have h0 : (s.extract 0 L).size = L := by rw [ByteArray.size_extract]; omega
  have h1 : j < (s.extract 0 L).data.size := by
    have e : (s.extract 0 L).data.size = (s.extract 0 L).size := rfl
    omega
  rw [getElem!_pos (s.extract 0 L).data j h1]
  unfold bt
  rw [dif_pos (by omega)]
  congr 2
  simp only [ByteArray.data_extract, Array.getElem_extract, Nat.zero_add]
  rfl
/-- The length in which the Go text looks for the last slash. -/
def Len (s : ByteArray) (L : Nat) : Prop := (156 < s.size ∧ L = 156) ∨ (s.size ≤ 156 ∧ ((bt s (s.size - 1) = 47 ∧ L = s.size - 1) ∨ (bt s (s.size - 1) ≠ 47 ∧ L = s.size)))
theorem sp_lt {s : ByteArray} {L i : Nat} (hL : Len s L) (h : Sp s i) : i < L := by
  unfold Len at hL
  unfold Sp at h
  omega
/-- What the last slash says. -/
theorem last_cases (s : ByteArray) (L : Nat) (hs : 100 < s.size) (hL : Len s L) :
    ∃ i : Int, Lib.lastIndexByte (s.extract 0 L) 47 = i ∧ -1 ≤ i ∧ i ≤ 155 ∧ i < s.size ∧ (s.size : Int) - i - 1 ≠ 0 ∧
      ((i ≤ 0 ∨ 100 < (s.size : Int) - i - 1) → ∀ j, ¬ Sp s j) ∧ (0 < i → (s.size : Int) - i - 1 ≤ 100 → Sp s i.toNat) := by
  have hLs : L ≤ s.size := by unfold Len at hL; omega
  have hL1 : L ≤ 156 := by unfold Len at hL; omega
  have hsz : (s.extract 0 L).size = L := by rw [ByteArray.size_extract]; omega
  rcases Lib.lastIndexByte_spec (s.extract 0 L) 47 with ⟨e, hn⟩ | ⟨i, hi, e, hc, hn⟩
  · refine ⟨-1, e, by omega, by omega, by omega, by omega, fun _ j hj => ?_, fun h => by omega⟩
    have h1 := sp_lt hL hj
    have h2 := hn j (by omega)
    rw [bt_extract s L j hLs h1] at h2
    unfold Sp at hj
    exact h2 hj.2.2.2.1
  · rw [hsz] at hi hn
    rw [bt_extract s L i hLs hi] at hc
    have hne : (s.size : Int) - i - 1 ≠ 0 := by
      unfold Len at hL
      intro h
      have : i = s.size - 1 := by omega
      subst this
      omega
    refine ⟨i, e, by omega, by omega, by omega, hne, fun h j hj => ?_, fun h1 h2 => ?_⟩
    · have h1 := sp_lt hL hj
      have h3 : j ≤ i := by
        rcases Nat.lt_or_ge i j with hlt | hge
        · have h2 := hn j hlt h1
          rw [bt_extract s L j hLs h1] at h2
          unfold Sp at hj
          exact absurd hj.2.2.2.1 h2
        · exact hge
      unfold Sp at hj
      omega
    · unfold Sp
      rw [Int.toNat_natCast]
      omega

/-- What splitUSTARPath leaves on a path of ASCII of more than 100 bytes. -/
def Parted (s : ByteArray) (w : World) (e : Ending) (w' : World) : Prop :=
  Below w.heap.size w w' ∧ ((∃ i, Sp s i ∧ e = .returned (.tuple #[.string (s.extract 0 i), .string (s.extract (i + 1) s.size), .bool true])) ∨
    ((∀ i, ¬ Sp s i) ∧ e = .returned (.tuple #[.string ⟨#[]⟩, .string ⟨#[]⟩, .bool false])))

theorem lastSlash (t : ByteArray) (w : World) (ht : t.size < 4611686018427387904) :
    Calls Try.prog 49 #[.string t, .string ⟨#[47]⟩] w fun e w' => e = .returned (.int .i64 (Lib.lastIndexByte t 47)) ∧ w = w' :=
  (Try.strings_LastIndex_one t ⟨#[47]⟩ rfl ht w).mono fun _ _ ⟨h1, h2⟩ => ⟨h1, h2.symm⟩

theorem extract_all (s : ByteArray) : s.extract 0 s.size = s := by
  apply ByteArray.ext; simp [ByteArray.data_extract, ← ByteArray.size_data]
set_option linter.unusedVariables false
set_option maxRecDepth 20000 in
set_option maxHeartbeats 1600000 in
theorem longBad1 (s : ByteArray) (w : World) (h100 : 100 < s.size) (hs : s.size ≤ 2147483647) (hA : Asc s) (hc : 156 < s.size) (i : Int) (hi : Lib.lastIndexByte (s.extract 0 (156)) 47 = i) (k1 : -1 ≤ i) (k3 : i < s.size) (k5 : ∀ j, ¬ Sp s j) (c1 : i ≤ 0) :
    Calls Try.prog 44 #[.string s] w (Parted s w) := by
  have hb := get_bt s
  have HA := Lib.hid hA
  clear hA
  have hsz : (s.extract 0 (156)).size < 4611686018427387904 := by rw [ByteArray.size_extract]; omega
  have HI := Lib.hid hi
  have HSZ := Lib.hid hsz
  have K5 := Lib.hid k5
  clear hi hsz k5
  go_enter Try.func44, Try.ntmps44
  go_wp2_with (first
      | (go_at_call 48; refine (isASCII_yes s _ (by omega) HA.out).mono ?_; rintro e w1 ⟨rfl, hb1⟩)
      | (go_at_call 49; refine (lastSlash _ _ HSZ.out).mono ?_; rw [HI.out]; rintro e w' ⟨rfl, rfl⟩))
  go_ret3
  exact ⟨hb1, .inr ⟨K5.out, rfl⟩⟩

set_option maxRecDepth 20000 in
set_option maxHeartbeats 1600000 in
theorem longBad2 (s : ByteArray) (w : World) (h100 : 100 < s.size) (hs : s.size ≤ 2147483647) (hA : Asc s) (hc : 156 < s.size) (i : Int) (hi : Lib.lastIndexByte (s.extract 0 (156)) 47 = i) (k1 : -1 ≤ i) (k3 : i < s.size) (k4 : ((s.size : Int) - i - 1 == 0) = false) (k5 : ∀ j, ¬ Sp s j) (c1 : 0 < i) (c2 : 100 < (s.size : Int) - i - 1) :
    Calls Try.prog 44 #[.string s] w (Parted s w) := by
  have hb := get_bt s
  have HA := Lib.hid hA
  clear hA
  have hsz : (s.extract 0 (156)).size < 4611686018427387904 := by rw [ByteArray.size_extract]; omega
  have HI := Lib.hid hi
  have HSZ := Lib.hid hsz
  have K5 := Lib.hid k5
  clear hi hsz k5
  go_enter Try.func44, Try.ntmps44
  go_wp2_with (first
      | (go_at_call 48; refine (isASCII_yes s _ (by omega) HA.out).mono ?_; rintro e w1 ⟨rfl, hb1⟩)
      | (go_at_call 49; refine (lastSlash _ _ HSZ.out).mono ?_; rw [HI.out]; rintro e w' ⟨rfl, rfl⟩))
  go_ret3
  exact ⟨hb1, .inr ⟨K5.out, rfl⟩⟩

set_option maxRecDepth 20000 in
set_option maxHeartbeats 1600000 in
theorem longGood (s : ByteArray) (w : World) (h100 : 100 < s.size) (hs : s.size ≤ 2147483647) (hA : Asc s) (hc : 156 < s.size) (j : Nat) (hi : Lib.lastIndexByte (s.extract 0 (156)) 47 = (j : Int)) (k3 : j < s.size) (k2 : (j : Int) ≤ 155) (k4 : ((s.size : Int) - j - 1 == 0) = false) (k5 : Sp s j) (c1 : 0 < (j : Int)) (c2 : (s.size : Int) - j - 1 ≤ 100) :
    Calls Try.prog 44 #[.string s] w (Parted s w) := by
  have hb := get_bt s
  have HA := Lib.hid hA
  clear hA
  have hsz : (s.extract 0 (156)).size < 4611686018427387904 := by rw [ByteArray.size_extract]; omega
  have HI := Lib.hid hi
  have HSZ := Lib.hid hsz
  have K5 := Lib.hid k5
  clear hi hsz k5
  go_enter Try.func44, Try.ntmps44
  go_wp2_with (first
      | (go_at_call 48; refine (isASCII_yes s _ (by omega) HA.out).mono ?_; rintro e w1 ⟨rfl, hb1⟩)
      | (go_at_call 49; refine (lastSlash _ _ HSZ.out).mono ?_; rw [HI.out]; rintro e w' ⟨rfl, rfl⟩))
  have hw1 : IntKind.i64.wrap ((j : Int) + 1) = (j : Int) + 1 := IntWalk.i64_in _ (by omega)
  have hw2 : ((j : Int) + 1).toNat = j + 1 := by omega
  have hw3 : (0 : Int) ≤ (j : Int) := by omega
  have hw4 : (j : Int) ≤ (s.size : Int) := by omega
  have hw5 : (0 : Int) ≤ (j : Int) + 1 := by omega
  have hw6 : (j : Int) + 1 ≤ (s.size : Int) := by omega
  have hw7 : j ≤ s.size := by omega
  go_region_held3 (fun _ => True) (trivial) (fail)
  go_wp2
  go_ret3
  exact ⟨hb1.drew, .inl ⟨j, K5.out, rfl⟩⟩

set_option maxRecDepth 20000 in
set_option maxHeartbeats 1600000 in
theorem slashBad1 (s : ByteArray) (w : World) (h100 : 100 < s.size) (hs : s.size ≤ 2147483647) (hA : Asc s) (hc : s.size ≤ 156) (hc2 : (bt s (s.size - 1) == 47) = true) (i : Int) (hi : Lib.lastIndexByte (s.extract 0 (s.size - 1)) 47 = i) (k1 : -1 ≤ i) (k3 : i < s.size) (k5 : ∀ j, ¬ Sp s j) (c1 : i ≤ 0) :
    Calls Try.prog 44 #[.string s] w (Parted s w) := by
  have hb := get_bt s
  have HA := Lib.hid hA
  clear hA
  have hsz : (s.extract 0 (s.size - 1)).size < 4611686018427387904 := by rw [ByteArray.size_extract]; omega
  have HI := Lib.hid hi
  have HSZ := Lib.hid hsz
  have K5 := Lib.hid k5
  clear hi hsz k5
  go_enter Try.func44, Try.ntmps44
  go_wp2_with (first
      | (go_at_call 48; refine (isASCII_yes s _ (by omega) HA.out).mono ?_; rintro e w1 ⟨rfl, hb1⟩)
      | (go_at_call 49; refine (lastSlash _ _ HSZ.out).mono ?_; rw [HI.out]; rintro e w' ⟨rfl, rfl⟩))
  go_ret3
  exact ⟨hb1, .inr ⟨K5.out, rfl⟩⟩

set_option maxRecDepth 20000 in
set_option maxHeartbeats 1600000 in
theorem slashBad2 (s : ByteArray) (w : World) (h100 : 100 < s.size) (hs : s.size ≤ 2147483647) (hA : Asc s) (hc : s.size ≤ 156) (hc2 : (bt s (s.size - 1) == 47) = true) (i : Int) (hi : Lib.lastIndexByte (s.extract 0 (s.size - 1)) 47 = i) (k1 : -1 ≤ i) (k3 : i < s.size) (k4 : ((s.size : Int) - i - 1 == 0) = false) (k5 : ∀ j, ¬ Sp s j) (c1 : 0 < i) (c2 : 100 < (s.size : Int) - i - 1) :
    Calls Try.prog 44 #[.string s] w (Parted s w) := by
  have hb := get_bt s
  have HA := Lib.hid hA
  clear hA
  have hsz : (s.extract 0 (s.size - 1)).size < 4611686018427387904 := by rw [ByteArray.size_extract]; omega
  have HI := Lib.hid hi
  have HSZ := Lib.hid hsz
  have K5 := Lib.hid k5
  clear hi hsz k5
  go_enter Try.func44, Try.ntmps44
  go_wp2_with (first
      | (go_at_call 48; refine (isASCII_yes s _ (by omega) HA.out).mono ?_; rintro e w1 ⟨rfl, hb1⟩)
      | (go_at_call 49; refine (lastSlash _ _ HSZ.out).mono ?_; rw [HI.out]; rintro e w' ⟨rfl, rfl⟩))
  go_ret3
  exact ⟨hb1, .inr ⟨K5.out, rfl⟩⟩

set_option maxRecDepth 20000 in
set_option maxHeartbeats 1600000 in
theorem slashGood (s : ByteArray) (w : World) (h100 : 100 < s.size) (hs : s.size ≤ 2147483647) (hA : Asc s) (hc : s.size ≤ 156) (hc2 : (bt s (s.size - 1) == 47) = true) (j : Nat) (hi : Lib.lastIndexByte (s.extract 0 (s.size - 1)) 47 = (j : Int)) (k3 : j < s.size) (k2 : (j : Int) ≤ 155) (k4 : ((s.size : Int) - j - 1 == 0) = false) (k5 : Sp s j) (c1 : 0 < (j : Int)) (c2 : (s.size : Int) - j - 1 ≤ 100) :
    Calls Try.prog 44 #[.string s] w (Parted s w) := by
  have hb := get_bt s
  have HA := Lib.hid hA
  clear hA
  have hsz : (s.extract 0 (s.size - 1)).size < 4611686018427387904 := by rw [ByteArray.size_extract]; omega
  have HI := Lib.hid hi
  have HSZ := Lib.hid hsz
  have K5 := Lib.hid k5
  clear hi hsz k5
  go_enter Try.func44, Try.ntmps44
  go_wp2_with (first
      | (go_at_call 48; refine (isASCII_yes s _ (by omega) HA.out).mono ?_; rintro e w1 ⟨rfl, hb1⟩)
      | (go_at_call 49; refine (lastSlash _ _ HSZ.out).mono ?_; rw [HI.out]; rintro e w' ⟨rfl, rfl⟩))
  have hw1 : IntKind.i64.wrap ((j : Int) + 1) = (j : Int) + 1 := IntWalk.i64_in _ (by omega)
  have hw2 : ((j : Int) + 1).toNat = j + 1 := by omega
  have hw3 : (0 : Int) ≤ (j : Int) := by omega
  have hw4 : (j : Int) ≤ (s.size : Int) := by omega
  have hw5 : (0 : Int) ≤ (j : Int) + 1 := by omega
  have hw6 : (j : Int) + 1 ≤ (s.size : Int) := by omega
  have hw7 : j ≤ s.size := by omega
  go_region_held3 (fun _ => True) (trivial) (fail)
  go_wp2
  go_ret3
  exact ⟨hb1.drew, .inl ⟨j, K5.out, rfl⟩⟩

set_option maxRecDepth 20000 in
set_option maxHeartbeats 1600000 in
theorem flatBad1 (s : ByteArray) (w : World) (h100 : 100 < s.size) (hs : s.size ≤ 2147483647) (hA : Asc s) (hc : s.size ≤ 156) (hc2 : (bt s (s.size - 1) == 47) = false) (i : Int) (hi : Lib.lastIndexByte (s.extract 0 (s.size)) 47 = i) (k1 : -1 ≤ i) (k3 : i < s.size) (k5 : ∀ j, ¬ Sp s j) (c1 : i ≤ 0) :
    Calls Try.prog 44 #[.string s] w (Parted s w) := by
  have hb := get_bt s
  have HA := Lib.hid hA
  clear hA
  have hsz : (s.extract 0 (s.size)).size < 4611686018427387904 := by rw [ByteArray.size_extract]; omega
  rw [extract_all] at hi hsz
  have HI := Lib.hid hi
  have HSZ := Lib.hid hsz
  have K5 := Lib.hid k5
  clear hi hsz k5
  go_enter Try.func44, Try.ntmps44
  go_wp2_with (first
      | (go_at_call 48; refine (isASCII_yes s _ (by omega) HA.out).mono ?_; rintro e w1 ⟨rfl, hb1⟩)
      | (go_at_call 49; refine (lastSlash _ _ HSZ.out).mono ?_; rw [HI.out]; rintro e w' ⟨rfl, rfl⟩))
  go_ret3
  exact ⟨hb1, .inr ⟨K5.out, rfl⟩⟩

set_option maxRecDepth 20000 in
set_option maxHeartbeats 1600000 in
theorem flatBad2 (s : ByteArray) (w : World) (h100 : 100 < s.size) (hs : s.size ≤ 2147483647) (hA : Asc s) (hc : s.size ≤ 156) (hc2 : (bt s (s.size - 1) == 47) = false) (i : Int) (hi : Lib.lastIndexByte (s.extract 0 (s.size)) 47 = i) (k1 : -1 ≤ i) (k3 : i < s.size) (k4 : ((s.size : Int) - i - 1 == 0) = false) (k5 : ∀ j, ¬ Sp s j) (c1 : 0 < i) (c2 : 100 < (s.size : Int) - i - 1) :
    Calls Try.prog 44 #[.string s] w (Parted s w) := by
  have hb := get_bt s
  have HA := Lib.hid hA
  clear hA
  have hsz : (s.extract 0 (s.size)).size < 4611686018427387904 := by rw [ByteArray.size_extract]; omega
  rw [extract_all] at hi hsz
  have HI := Lib.hid hi
  have HSZ := Lib.hid hsz
  have K5 := Lib.hid k5
  clear hi hsz k5
  go_enter Try.func44, Try.ntmps44
  go_wp2_with (first
      | (go_at_call 48; refine (isASCII_yes s _ (by omega) HA.out).mono ?_; rintro e w1 ⟨rfl, hb1⟩)
      | (go_at_call 49; refine (lastSlash _ _ HSZ.out).mono ?_; rw [HI.out]; rintro e w' ⟨rfl, rfl⟩))
  go_ret3
  exact ⟨hb1, .inr ⟨K5.out, rfl⟩⟩

set_option maxRecDepth 20000 in
set_option maxHeartbeats 1600000 in
theorem flatGood (s : ByteArray) (w : World) (h100 : 100 < s.size) (hs : s.size ≤ 2147483647) (hA : Asc s) (hc : s.size ≤ 156) (hc2 : (bt s (s.size - 1) == 47) = false) (j : Nat) (hi : Lib.lastIndexByte (s.extract 0 (s.size)) 47 = (j : Int)) (k3 : j < s.size) (k2 : (j : Int) ≤ 155) (k4 : ((s.size : Int) - j - 1 == 0) = false) (k5 : Sp s j) (c1 : 0 < (j : Int)) (c2 : (s.size : Int) - j - 1 ≤ 100) :
    Calls Try.prog 44 #[.string s] w (Parted s w) := by
  have hb := get_bt s
  have HA := Lib.hid hA
  clear hA
  have hsz : (s.extract 0 (s.size)).size < 4611686018427387904 := by rw [ByteArray.size_extract]; omega
  rw [extract_all] at hi hsz
  have HI := Lib.hid hi
  have HSZ := Lib.hid hsz
  have K5 := Lib.hid k5
  clear hi hsz k5
  go_enter Try.func44, Try.ntmps44
  go_wp2_with (first
      | (go_at_call 48; refine (isASCII_yes s _ (by omega) HA.out).mono ?_; rintro e w1 ⟨rfl, hb1⟩)
      | (go_at_call 49; refine (lastSlash _ _ HSZ.out).mono ?_; rw [HI.out]; rintro e w' ⟨rfl, rfl⟩))
  have hw1 : IntKind.i64.wrap ((j : Int) + 1) = (j : Int) + 1 := IntWalk.i64_in _ (by omega)
  have hw2 : ((j : Int) + 1).toNat = j + 1 := by omega
  have hw3 : (0 : Int) ≤ (j : Int) := by omega
  have hw4 : (j : Int) ≤ (s.size : Int) := by omega
  have hw5 : (0 : Int) ≤ (j : Int) + 1 := by omega
  have hw6 : (j : Int) + 1 ≤ (s.size : Int) := by omega
  have hw7 : j ≤ s.size := by omega
  go_region_held3 (fun _ => True) (trivial) (fail)
  go_wp2
  go_ret3
  exact ⟨hb1.drew, .inl ⟨j, K5.out, rfl⟩⟩

theorem splitUSTAR (s : ByteArray) (w : World) (h100 : 100 < s.size) (hs : s.size ≤ 2147483647) (hA : Asc s) :
    Calls Try.prog 44 #[.string s] w (Parted s w) := by
  have hcase : (156 < s.size) ∨ (s.size ≤ 156 ∧ bt s (s.size - 1) = 47) ∨ (s.size ≤ 156 ∧ bt s (s.size - 1) ≠ 47) := by omega
  rcases hcase with hc | ⟨hc, hc2⟩ | ⟨hc, hc2⟩
  · obtain ⟨i, hi, k1, k2, k3, k4, k5, k6⟩ := last_cases s (156) h100 (.inl ⟨hc, rfl⟩)
    by_cases c1 : i ≤ 0
    · exact longBad1 s w h100 hs hA hc i hi k1 k3 (k5 (.inl c1)) c1
    have k4' : ((s.size : Int) - i - 1 == 0) = false := by rw [beq_eq_false_iff_ne]; exact k4
    by_cases c2 : 100 < (s.size : Int) - i - 1
    · exact longBad2 s w h100 hs hA hc i hi k1 k3 k4' (k5 (.inr c2)) (by omega) c2
    obtain ⟨j, rfl⟩ : ∃ j : Nat, i = j := ⟨i.toNat, by omega⟩
    exact longGood s w h100 hs hA hc j hi (by omega) k2 k4' (k6 (by omega) (by omega)) (by omega) (by omega)
  · obtain ⟨i, hi, k1, k2, k3, k4, k5, k6⟩ := last_cases s (s.size - 1) h100 (.inr ⟨hc, .inl ⟨hc2, rfl⟩⟩)
    by_cases c1 : i ≤ 0
    · exact slashBad1 s w h100 hs hA hc (by rw [hc2]; rfl) i hi k1 k3 (k5 (.inl c1)) c1
    have k4' : ((s.size : Int) - i - 1 == 0) = false := by rw [beq_eq_false_iff_ne]; exact k4
    by_cases c2 : 100 < (s.size : Int) - i - 1
    · exact slashBad2 s w h100 hs hA hc (by rw [hc2]; rfl) i hi k1 k3 k4' (k5 (.inr c2)) (by omega) c2
    obtain ⟨j, rfl⟩ : ∃ j : Nat, i = j := ⟨i.toNat, by omega⟩
    exact slashGood s w h100 hs hA hc (by rw [hc2]; rfl) j hi (by omega) k2 k4' (k6 (by omega) (by omega)) (by omega) (by omega)
  · obtain ⟨i, hi, k1, k2, k3, k4, k5, k6⟩ := last_cases s (s.size) h100 (.inr ⟨hc, .inr ⟨hc2, rfl⟩⟩)
    by_cases c1 : i ≤ 0
    · exact flatBad1 s w h100 hs hA hc (by rw [beq_eq_false_iff_ne]; exact hc2) i hi k1 k3 (k5 (.inl c1)) c1
    have k4' : ((s.size : Int) - i - 1 == 0) = false := by rw [beq_eq_false_iff_ne]; exact k4
    by_cases c2 : 100 < (s.size : Int) - i - 1
    · exact flatBad2 s w h100 hs hA hc (by rw [beq_eq_false_iff_ne]; exact hc2) i hi k1 k3 k4' (k5 (.inr c2)) (by omega) c2
    obtain ⟨j, rfl⟩ : ∃ j : Nat, i = j := ⟨i.toNat, by omega⟩
    exact flatGood s w h100 hs hA hc (by rw [beq_eq_false_iff_ne]; exact hc2) j hi (by omega) k2 k4' (k6 (by omega) (by omega)) (by omega) (by omega)
end Go.Proofs.Ytiahifohkhdmdaa
