/- Verdicts of strings and times of package spec: plain words; walks. -/
import Derived.Test.YtepeehjajhehfaaGreatDoorVd
namespace Go.Proofs.YtepeehjajhehfaaGreatDoor
open Go.RowKit Go.PlainAid
set_option linter.unusedVariables false

/-- Has it a byte 0? -/
def nulB (s : ByteArray) : Bool := decide (fc 0 s < s.size)
/-- What a string comes to in USTAR and in GNU. -/
noncomputable def textV (s : ByteArray) (n f : Int) : Int := if nulB s = true then 0 else if f = 1 then whenV (asc s && decide ((s.size : Int) ≤ n)) else 1
set_option maxRecDepth 20000 in
set_option maxHeartbeats 1600000 in
theorem specText13 (s : ByteArray) (n f : Int) (w : World) (hs : s.size ≤ 4611686018427387904) (hf : f = 1 ∨ f = 3) :
    Calls Tryz.prog 20 #[.string s, .int .i64 n, .int .i64 f] w fun e w' => e = .returned (.int .i64 (textV s n f)) ∧ w = w' := by
  have HN : ∀ w, Calls Tryz.prog 39 #[.string s] w fun e w' => e = .returned (.bool (nulB s)) ∧ w = w' := fun w => specHasNUL s w hs
  have HA := fun w => specASCII s w hs
  obtain ⟨V, hV⟩ : ∃ V, textV s n f = V := ⟨_, rfl⟩
  rw [hV]
  unfold textV at hV
  obtain ⟨b, hb⟩ : ∃ b, nulB s = b := ⟨_, rfl⟩
  obtain ⟨a, ha⟩ : ∃ a, asc s = a := ⟨_, rfl⟩
  rw [hb] at hV HN
  rw [ha] at hV HA
  clear hb ha
  have HN := fun w => Lib.hid (HN w)
  have HA := fun w => Lib.hid (HA w)
  cases b with
  | true =>
    rw [if_pos rfl] at hV
    subst hV
    go_enter Tryz.func20, Tryz.ntmps20
    go_wp2_with (first
      | (go_at_call 39; refine ((HN _).out).mono ?_; rintro e w' ⟨rfl, rfl⟩))
    go_ret
    exact ⟨rfl, rfl⟩
  | false =>
    rw [if_neg (by decide)] at hV
    rcases hf with rfl | rfl
    · rw [if_pos rfl] at hV
      cases a with
      | true =>
        by_cases h1 : (s.size : Int) ≤ n
        · have h2 : decide ((s.size : Int) ≤ n) = true := decide_eq_true h1
          rw [h2] at hV
          subst hV
          go_enter Tryz.func20, Tryz.ntmps20
          go_wp2_with (first
            | (go_at_call 39; refine (HN _).out.mono ?_; rintro e w' ⟨rfl, rfl⟩)
            | (go_at_call 40; refine (HA _).out.mono ?_; rintro e w' ⟨rfl, rfl⟩)
            | (go_at_call 21; refine (specWhen _ _).mono ?_; rintro e w' ⟨rfl, rfl⟩))
          go_ret
          exact ⟨rfl, rfl⟩
        · have h2 : decide ((s.size : Int) ≤ n) = false := decide_eq_false h1
          rw [h2] at hV
          subst hV
          go_enter Tryz.func20, Tryz.ntmps20
          go_wp2_with (first
            | (go_at_call 39; refine (HN _).out.mono ?_; rintro e w' ⟨rfl, rfl⟩)
            | (go_at_call 40; refine (HA _).out.mono ?_; rintro e w' ⟨rfl, rfl⟩)
            | (go_at_call 21; refine (specWhen _ _).mono ?_; rintro e w' ⟨rfl, rfl⟩))
          go_ret
          exact ⟨rfl, rfl⟩
      | false =>
        subst hV
        go_enter Tryz.func20, Tryz.ntmps20
        go_wp2_with (first
          | (go_at_call 39; refine (HN _).out.mono ?_; rintro e w' ⟨rfl, rfl⟩)
          | (go_at_call 40; refine (HA _).out.mono ?_; rintro e w' ⟨rfl, rfl⟩)
          | (go_at_call 21; refine (specWhen _ _).mono ?_; rintro e w' ⟨rfl, rfl⟩))
        go_ret
        exact ⟨rfl, rfl⟩
    · rw [if_neg (by decide)] at hV
      subst hV
      go_enter Tryz.func20, Tryz.ntmps20
      go_wp2_with (first
        | (go_at_call 39; refine (HN _).out.mono ?_; rintro e w' ⟨rfl, rfl⟩))
      go_ret
      exact ⟨rfl, rfl⟩
/-- What the name of an owner comes to in USTAR and in GNU. -/
noncomputable def ownerV (s : ByteArray) (f : Int) : Int := if f = 3 ∧ 32 < s.size then 2 else if s.size = 32 then allV [textV s 32 f, 0] else textV s 32 f
theorem two_nums (w : World) (T : TypeId) (x y : Int) : RC (w.alloc (.cells #[.int .i64 x, .int .i64 y] T)) (w.heap.size + 1) (some ⟨w.heap.size, 0, none⟩) (nums [x, y]) := RC.of_blk (Blk.new w T (nums [x, y]))
set_option maxRecDepth 20000 in
set_option maxHeartbeats 1600000 in
theorem specOwner13 (s : ByteArray) (f : Int) (w : World) (hs : s.size ≤ 4611686018427387904) (hf : f = 1 ∨ f = 3) :
    Calls Tryz.prog 24 #[.string s, .int .i64 f] w fun e w' => e = .returned (.int .i64 (ownerV s f)) ∧ Below w.heap.size w w' := by
  have HT := fun w => Lib.hid (specText13 s 32 f w hs hf)
  obtain ⟨V, hV⟩ : ∃ V, ownerV s f = V := ⟨_, rfl⟩
  rw [hV]
  unfold ownerV at hV
  obtain ⟨t, ht⟩ : ∃ t, textV s 32 f = t := ⟨_, rfl⟩
  rw [ht] at HT hV
  have hAll : ∀ (w : World) (T : TypeId), Calls Tryz.prog 23 #[.slice (some ⟨w.heap.size, 0, none⟩) 2 2] (w.alloc (.cells #[.int .i64 t, .int .i64 0] T)) fun e w' => e = .returned (.int .i64 (allV [t, 0])) ∧ w.alloc (.cells #[.int .i64 t, .int .i64 0] T) = w' := fun w T => specAll _ 2 2 _ [t, 0] _ rfl (two_nums w T t 0) (by omega)
  have HALL := fun w T => Lib.hid (hAll w T)
  clear ht hAll
  by_cases h32 : s.size = 32
  · have e1 : ((s.size : Int) == 32) = true := by rw [beq_iff_eq]; omega
    have e1' : (s.size == 32) = true := by rw [beq_iff_eq]; omega
    have e2 : ¬ (32 : Int) < (s.size : Int) := by omega
    have e3 : (s.size : Int) = 32 := by omega
    rw [if_neg (by omega), if_pos h32] at hV
    clear h32
    rcases hf with rfl | rfl
    · skip
      go_enter Tryz.func24, Tryz.ntmps24
      go_wp2_with (first
        | (go_at_call 20; refine (HT _).out.mono ?_; rintro e w' ⟨rfl, rfl⟩)
        | (go_at_call 23; refine (HALL _ _).out.mono ?_; rintro e w' ⟨rfl, rfl⟩))
      go_ret
      exact ⟨by rw [← hV]; rfl, (Below.refl _ _).alloc (Nat.le_refl _) _⟩
    · skip
      go_enter Tryz.func24, Tryz.ntmps24
      go_wp2_with (first
        | (go_at_call 20; refine (HT _).out.mono ?_; rintro e w' ⟨rfl, rfl⟩)
        | (go_at_call 23; refine (HALL _ _).out.mono ?_; rintro e w' ⟨rfl, rfl⟩))
      go_ret
      exact ⟨by rw [← hV]; rfl, (Below.refl _ _).alloc (Nat.le_refl _) _⟩
  · have e1 : ((s.size : Int) == 32) = false := by rw [beq_eq_false_iff_ne]; omega
    have e1' : (s.size == 32) = false := by rw [beq_eq_false_iff_ne]; omega
    have e3 : ¬ (s.size : Int) = 32 := by omega
    rw [if_neg h32] at hV
    by_cases hg : 32 < s.size
    · have e2 : (32 : Int) < (s.size : Int) := by omega
      rcases hf with rfl | rfl
      · rw [if_neg (by omega)] at hV
        subst hV
        go_enter Tryz.func24, Tryz.ntmps24
        go_wp2_with (first
          | (go_at_call 20; refine (HT _).out.mono ?_; rintro e w' ⟨rfl, rfl⟩))
        go_ret
        exact ⟨rfl, Below.refl _ _⟩
      · rw [if_pos ⟨rfl, hg⟩] at hV
        subst hV
        go_enter Tryz.func24, Tryz.ntmps24
        go_wp2_with (first
          | (go_at_call 20; refine (HT _).out.mono ?_; rintro e w' ⟨rfl, rfl⟩))
        go_ret
        exact ⟨rfl, Below.refl _ _⟩
    · have e2 : ¬ (32 : Int) < (s.size : Int) := by omega
      rw [if_neg (by omega)] at hV
      subst hV
      rcases hf with rfl | rfl
      · skip
        go_enter Tryz.func24, Tryz.ntmps24
        go_wp2_with (first
          | (go_at_call 20; refine (HT _).out.mono ?_; rintro e w' ⟨rfl, rfl⟩))
        go_ret
        exact ⟨rfl, Below.refl _ _⟩
      · skip
        go_enter Tryz.func24, Tryz.ntmps24
        go_wp2_with (first
          | (go_at_call 20; refine (HT _).out.mono ?_; rintro e w' ⟨rfl, rfl⟩))
        go_ret
        exact ⟨rfl, Below.refl _ _⟩
/-- What a time comes to. -/
def momentV (s n f : Int) : Int := if 100000000000000000 < s ∨ s < -100000000000000000 then 0 else if f ≠ 2 ∧ n ≠ 0 then 0 else 1
set_option maxRecDepth 20000 in
set_option maxHeartbeats 1600000 in
theorem specMoment (s n f : Int) (w : World) :
    Calls Tryz.prog 27 #[.agg #[.int .i64 s, .int .i64 n], .int .i64 f] w fun e w' => e = .returned (.int .i64 (momentV s n f)) ∧ Below w.heap.size w w' := by
  obtain ⟨V, hV⟩ : ∃ V, momentV s n f = V := ⟨_, rfl⟩
  rw [hV]
  unfold momentV at hV
  have HB : ∀ T, Hid (Below w.heap.size w (w.alloc (.cells #[.int .i64 s, .int .i64 n] T))) := fun T => Lib.hid ((Below.refl _ _).alloc (Nat.le_refl _) _)
  by_cases h1 : 100000000000000000 < s
  · rw [if_pos (.inl h1)] at hV
    subst hV
    go_enter Tryz.func27, Tryz.ntmps27
    go_wp2
    go_ret
    exact ⟨rfl, (HB _).out⟩
  by_cases h2 : s < -100000000000000000
  · rw [if_pos (.inr h2)] at hV
    subst hV
    go_enter Tryz.func27, Tryz.ntmps27
    go_wp2
    go_ret
    exact ⟨rfl, (HB _).out⟩
  rw [if_neg (by omega)] at hV
  by_cases h3 : f = 2
  · subst h3
    rw [if_neg (by omega)] at hV
    subst hV
    go_enter Tryz.func27, Tryz.ntmps27
    go_wp2
    go_ret
    exact ⟨rfl, (HB _).out⟩
  have h3' : (f == 2) = false := by simpa using h3
  have h3b : (f != 2) = true := by unfold bne; rw [h3']; rfl
  by_cases h4 : n = 0
  · subst h4
    rw [if_neg (by omega)] at hV
    subst hV
    go_enter Tryz.func27, Tryz.ntmps27
    go_wp2
    go_ret
    exact ⟨rfl, (HB _).out⟩
  · have h4' : (n == 0) = false := by simpa using h4
    have h4b : (n != 0) = true := by unfold bne; rw [h4']; rfl
    rw [if_pos ⟨h3, h4⟩] at hV
    subst hV
    go_enter Tryz.func27, Tryz.ntmps27
    go_wp2
    go_ret
    exact ⟨rfl, (HB _).out⟩
/-- Times that stand for none, and such as are none. -/
def oddB (s n : Int) : Bool := (decide (s = -62135596800) && decide (n = 0)) || decide (n < 0) || decide (999999999 < n)
set_option maxRecDepth 20000 in
set_option maxHeartbeats 1600000 in
theorem specOdd (s n : Int) (w : World) :
    Calls Tryz.prog 38 #[.agg #[.int .i64 s, .int .i64 n]] w fun e w' => e = .returned (.bool (oddB s n)) ∧ Below w.heap.size w w' := by
  obtain ⟨V, hV⟩ : ∃ V, oddB s n = V := ⟨_, rfl⟩
  rw [hV]
  unfold oddB at hV
  have HB : ∀ T, Hid (Below w.heap.size w (w.alloc (.cells #[.int .i64 s, .int .i64 n] T))) := fun T => Lib.hid ((Below.refl _ _).alloc (Nat.le_refl _) _)
  by_cases h1 : s = -62135596800
  · subst h1
    by_cases h2 : n = 0
    · subst h2
      subst hV
      go_enter Tryz.func38, Tryz.ntmps38
      go_wp2
      go_ret
      exact ⟨rfl, (HB _).out⟩
    · have h2' : (n == 0) = false := by simpa using h2
      rw [decide_eq_false h2, Bool.and_false, Bool.false_or] at hV
      by_cases h3 : n < 0
      · rw [decide_eq_true h3] at hV
        subst hV
        go_enter Tryz.func38, Tryz.ntmps38
        go_wp2
        go_ret
        exact ⟨rfl, (HB _).out⟩
      · rw [decide_eq_false h3, Bool.false_or] at hV
        subst hV
        go_enter Tryz.func38, Tryz.ntmps38
        go_wp2
        go_ret
        exact ⟨rfl, (HB _).out⟩
  · have h1' : (s == -62135596800) = false := by simpa using h1
    rw [decide_eq_false h1, Bool.false_and, Bool.false_or] at hV
    by_cases h3 : n < 0
    · rw [decide_eq_true h3] at hV
      subst hV
      go_enter Tryz.func38, Tryz.ntmps38
      go_wp2
      go_ret
      exact ⟨rfl, (HB _).out⟩
    · rw [decide_eq_false h3, Bool.false_or] at hV
      subst hV
      go_enter Tryz.func38, Tryz.ntmps38
      go_wp2
      go_ret
      exact ⟨rfl, (HB _).out⟩
def hasD (t : Int) : Bool := decide (t < 49) || decide (54 < t)
set_option maxRecDepth 20000 in
set_option maxHeartbeats 800000 in
theorem specHasData (t : Int) (w : World) :
    Calls Tryz.prog 26 #[.int .u8 t] w fun e w' => e = .returned (.bool (hasD t)) ∧ w = w' := by
  obtain ⟨V, hV⟩ : ∃ V, hasD t = V := ⟨_, rfl⟩
  rw [hV]
  unfold hasD at hV
  by_cases h1 : t < 49
  · rw [decide_eq_true h1] at hV
    subst hV
    go_enter Tryz.func26, Tryz.ntmps26
    go_wp2
    go_ret
    exact ⟨rfl, rfl⟩
  · rw [decide_eq_false h1, Bool.false_or] at hV
    subst hV
    go_enter Tryz.func26, Tryz.ntmps26
    go_wp2
    go_ret
    exact ⟨rfl, rfl⟩
/-- Does it end with a slash? -/
def slB (s : ByteArray) : Bool := decide (s.size ≠ 0) && decide (bt s (s.size - 1) = 47)
set_option maxRecDepth 20000 in
set_option maxHeartbeats 800000 in
theorem specSlashed (s : ByteArray) (w : World) (hs : s.size ≤ 4611686018427387904) :
    Calls Tryz.prog 19 #[.string s] w fun e w' => e = .returned (.bool (slB s)) ∧ w = w' := by
  obtain ⟨V, hV⟩ : ∃ V, slB s = V := ⟨_, rfl⟩
  rw [hV]
  unfold slB at hV
  have hb := get_bt s
  by_cases h0 : s.size = 0
  · have e0 : s.toList = [] := by rw [Lib.toList_data]; exact List.eq_nil_of_length_eq_zero (by rw [← Lib.size_eq]; exact h0)
    have e1 : s.toList.isEmpty = true := by rw [e0]; rfl
    rw [decide_eq_false (by omega), Bool.false_and] at hV
    subst hV
    clear hb
    go_enter Tryz.func19, Tryz.ntmps19
    go_wp2
    go_ret
    exact ⟨rfl, rfl⟩
  · have e0 : ¬ s.toList = [] := by
      rw [Lib.toList_data]
      intro h
      have h2 := Lib.size_eq s
      rw [h] at h2
      exact h0 h2
    have e1 : s.toList.isEmpty = false := by
      cases hl : s.toList with
      | nil => exact absurd hl e0
      | cons a b => rfl
    obtain ⟨m, hm⟩ : ∃ m, s.size - 1 = m := ⟨_, rfl⟩
    have hm1 : m < s.size := by omega
    have hm2 : (0 : Int) ≤ (m : Int) := by omega
    have hm3 : (m : Int) < (s.size : Int) := by omega
    have u1 : IntKind.i64.wrap ((s.size : Int) - 1) = (m : Int) := by rw [IntWalk.i64_in _ (by omega)]; omega
    have hc := hb m hm1
    rw [decide_eq_true h0, Bool.true_and, hm] at hV
    clear hm h0
    by_cases h4 : bt s m = 47
    · rw [decide_eq_true h4] at hV
      subst hV
      have h4b : (bt s m == 47) = true := by simpa using h4
      go_enter Tryz.func19, Tryz.ntmps19
      go_wp2
      go_ret
      exact ⟨rfl, rfl⟩
    · rw [decide_eq_false h4] at hV
      subst hV
      have h4b : (bt s m == 47) = false := by simpa using h4
      go_enter Tryz.func19, Tryz.ntmps19
      go_wp2
      go_ret
      exact ⟨rfl, rfl⟩
end Go.Proofs.YtepeehjajhehfaaGreatDoor
