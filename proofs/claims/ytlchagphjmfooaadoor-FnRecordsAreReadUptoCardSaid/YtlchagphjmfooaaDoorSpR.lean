/- spec.sparseKey and spec.Records. -/
import Derived.Test.YtlchagphjmfooaaDoorWith
import Derived.Test.YtlchagphjmfooaaDoorRecLaw
namespace Go.Proofs.YtlchagphjmfooaaDoor
open Go.RowKit Go.PlainAid Go.Maps
set_option linter.unusedVariables false

def gsp : List UInt8 := [71, 78, 85, 46, 115, 112, 97, 114, 115, 101, 46]
/-- Does a key begin with GNU.sparse.? -/
def spk (s : ByteArray) : Bool := decide (11 ≤ s.size) && ((s.extract 0 11).toList == gsp)
set_option maxRecDepth 20000 in
set_option maxHeartbeats 400000 in
theorem sparseKey_any (s : ByteArray) (b : Bool) (w : World) (hs : s.size ≤ 4611686018427387904) (HB : Hid (spk s = b)) :
    Calls Tryd.prog 49 #[.string s] w fun e w' => e = .returned (.bool b) ∧ w = w' := by
  by_cases h : 11 ≤ s.size
  · have h1 : (11 : Int) ≤ (s.size : Int) := by omega
    have HE : Hid (((s.extract 0 11).toList == gsp) = b) := Lib.hid (by have := HB.out; unfold spk at this; rw [decide_eq_true h, Bool.true_and] at this; exact this)
    have hq : ((s.extract 0 11).toList == [71, 78, 85, 46, 115, 112, 97, 114, 115, 101, 46]) = b := HE.out
    go_enter Tryd.func49, Tryd.ntmps49
    go_wp2
    go_ret
    exact ⟨rfl, rfl⟩
  · have h1 : ¬ (11 : Int) ≤ (s.size : Int) := by omega
    have HE : Hid (b = false) := Lib.hid (by have := HB.out; unfold spk at this; rw [decide_eq_false h, Bool.false_and] at this; exact this.symm)
    go_enter Tryd.func49, Tryd.ntmps49
    go_wp2
    go_ret
    exact ⟨by rw [HE.out]; rfl, rfl⟩
/-- A record that the documents leave open. -/
def badR (k v : ByteArray) : Prop := v.size = 0 ∨ spk k = true ∨ fc 0 k < k.size ∨ fc 0 v < v.size
/-- Records read off a string, one behind the other; how that ends. -/
inductive PR : ByteArray → List (ByteArray × ByteArray) → Int → Prop
  | nil {s : ByteArray} : s.size = 0 → PR s [] 1
  | stop {s : ByteArray} : s.size ≠ 0 → (readV s).v ≠ 1 → PR s [] (readV s).v
  | bad {s k v r : ByteArray} : s.size ≠ 0 → readV s = ⟨k, v, r, 1⟩ → badR k v → PR s [] 0
  | cons {s k v r : ByteArray} {rs : List (ByteArray × ByteArray)} {x : Int} : s.size ≠ 0 → readV s = ⟨k, v, r, 1⟩ → ¬ badR k v → PR r rs x → PR s ((k, v) :: rs) x
theorem readV_rest {s k v r : ByteArray} (h : readV s = ⟨k, v, r, 1⟩) : r.size < s.size ∧ k.size ≤ s.size ∧ v.size ≤ s.size := by
  obtain ⟨hh, n, m, H⟩ := isRec_of (s := s) (by rw [h])
  have h1 := readV_sizes s
  rw [h] at H h1
  have hr := H.rest
  have hle := H.le
  have hgt := H.gt
  simp only at hr h1
  refine ⟨?_, h1.1, h1.2.1⟩
  rw [hr, ext_size _ _ _ (Nat.le_refl _)]
  omega
def SpRecs (s : ByteArray) (w : World) (e : Ending) (w' : World) : Prop :=
  ∃ (rs : List (ByteArray × ByteArray)) (v : Int) (A : Option Addr) (n c : Nat), PR s rs v ∧ e = .returned (.tuple #[.slice A n c, .int .i64 v]) ∧ (v = 0 ∨ v = 1 ∨ v = 2) ∧ (v = 1 → n = (tab rs).length ∧ RC w' w'.heap.size A (recsV (tab rs))) ∧ Below w.heap.size w w'

set_option maxRecDepth 20000 in
set_option maxHeartbeats 3200000 in
theorem specRecords (s0 : ByteArray) (w : World) (hs0 : s0.size ≤ 9000000) :
    Calls Tryd.prog 30 #[.string s0] w (SpRecs s0 w) := by
  go_enter Tryd.func30, Tryd.ntmps30
  go_wp2
  go_loopw [0, 4] (fun sv ov wr => ∃ (s : ByteArray) (dn : List (ByteArray × ByteArray)) (A : Option Addr) (n c : Nat), sv = .string s ∧ ov = .slice A n c ∧ s.size + dn.length ≤ s0.size ∧ n ≤ dn.length ∧ Hid ((tab dn).length = n) ∧ Hid (RC wr wr.heap.size A (recsV (tab dn))) ∧ Hid (∀ rs v, PR s rs v → PR s0 (dn ++ rs) v) ∧ Hid (Below w.heap.size w wr)) (fun sv _ _ => strSize sv)
  case atStart => exact ⟨s0, [], none, 0, 0, rfl, rfl, by simp, by simp, Lib.hid rfl, Lib.hid RC.nil_, Lib.hid (fun rs v h => h), Lib.hid (Below.refl _ _)⟩
  case round =>
    obtain ⟨s, dn, A, n, c, rfl, rfl, hsz, hnd, hN, hR, hP, hW⟩ := hrel
    by_cases h0 : s.size = 0
    · obtain ⟨e1, e2⟩ := empty_yes h0
      have HPR := Lib.hid (hP.out [] 1 (.nil h0))
      clear h0
      go_wp2
      go_ret2
      refine ⟨dn, 1, A, n, c, by have h := HPR.out; rwa [List.append_nil] at h, rfl, by simp, fun _ => ⟨hN.out.symm, hR.out⟩, hW.out⟩
    · obtain ⟨e1, e2⟩ := empty_no h0
      have H0 := Lib.hid h0
      clear h0
      obtain ⟨k, v, r, x, hrv⟩ : ∃ k v r x, readV s = ⟨k, v, r, x⟩ := ⟨_, _, _, _, rfl⟩
      have HV := Lib.hid hrv
      have hx : x = 0 ∨ x = 1 ∨ x = 2 := by have := (readV_sizes s).2.2; rw [hrv] at this; exact this
      clear hrv
      by_cases hx1 : x = 1
      · subst hx1
        obtain ⟨q1, q2, q3⟩ := readV_rest HV.out
        by_cases hb : badR k v
        · have HPR := Lib.hid (hP.out [] 0 (.bad H0.out HV.out hb))
          have fin : ∀ {w'}, Below w.heap.size w w' → SpRecs s0 w (.returned (.tuple #[.slice none 0 0, .int .i64 0])) w' := fun hb => ⟨dn ++ [], 0, none, 0, 0, HPR.out, rfl, by simp, (fun h => by cases h), hb⟩
          have HF := fun {w'} => Lib.hid (@fin w')
          clear fin
          by_cases b1 : v.size = 0
          · obtain ⟨v1, v2⟩ := empty_yes b1
            clear hb b1
            go_wp2_with fail
            refine (specRead' s k v r 1 _ (by omega) HV).mono ?_
            rintro e w1 ⟨rfl, hb1⟩
            have HB1 := Lib.hid ((hW.out.trans (hb1.mono hW.out.size)).alloc (o := .cells #[.string k, .string v] 23) (by have := hW.out.size; have := hb1.size; omega))
            clear hb1
            go_wp2
            go_ret2
            exact HF.out HB1.out
          · obtain ⟨v1, v2⟩ := empty_no b1
            obtain ⟨bs, hbs⟩ : ∃ b, spk k = b := ⟨_, rfl⟩
            obtain ⟨bk, hbk⟩ : ∃ b, decide (fc 0 k < k.size) = b := ⟨_, rfl⟩
            obtain ⟨bv, hbv⟩ : ∃ b, decide (fc 0 v < v.size) = b := ⟨_, rfl⟩
            have hany : bs = true ∨ bk = true ∨ bv = true := by
              unfold badR at hb
              rcases hb with h | h | h | h
              · exact absurd h b1
              · exact .inl (hbs.symm.trans h)
              · exact .inr (.inl (by rw [← hbk]; exact decide_eq_true h))
              · exact .inr (.inr (by rw [← hbv]; exact decide_eq_true h))
            have HBS := Lib.hid hbs
            have HBK := Lib.hid hbk
            have HBV := Lib.hid hbv
            clear hb b1 hbs hbk hbv
            have hcase : bs = true ∨ (bs = false ∧ bk = true) ∨ (bs = false ∧ bk = false ∧ bv = true) := by
              cases bs <;> cases bk <;> cases bv <;> simp at hany ⊢
            rcases hcase with rfl | ⟨rfl, rfl⟩ | ⟨rfl, rfl, rfl⟩
            all_goals
              clear hany
              go_wp2_with fail
              refine (specRead' s k v r 1 _ (by omega) HV).mono ?_
              rintro e w1 ⟨rfl, hb1⟩
              have HB1 := Lib.hid ((hW.out.trans (hb1.mono hW.out.size)).alloc (o := .cells #[.string k, .string v] 23) (by have := hW.out.size; have := hb1.size; omega))
              clear hb1
              go_wp2_with (first
                | (go_at_call 49; refine (sparseKey_any k _ _ (by omega) HBS).mono ?_; rintro e w' ⟨rfl, rfl⟩)
                | (go_at_call 15; first | (refine (specNUL k _ _ (by omega) HBK).mono ?_; rintro e w' ⟨rfl, rfl⟩; clear HBK) | (refine (specNUL v _ _ (by omega) HBV).mono ?_; rintro e w' ⟨rfl, rfl⟩)))
              go_ret2
              exact HF.out HB1.out
        · have HPC : Hid (∀ rs y, PR r rs y → PR s0 ((dn ++ [(k, v)]) ++ rs) y) := Lib.hid (fun rs y h => by
            have := hP.out _ _ (.cons H0.out HV.out hb h)
            rwa [List.append_assoc])
          have HTAB : Hid (putT (tab dn) (k, v) = tab (dn ++ [(k, v)])) := Lib.hid (tab_snoc _ _).symm
          obtain ⟨m, hm⟩ : ∃ m, (putT (tab dn) (k, v)).length = m := ⟨_, rfl⟩
          have hmn : m ≤ n + 1 := by rw [← hm]; have := putT_len (tab dn) (k, v); have := hN.out; omega
          have HM := Lib.hid hm
          have b1 : v.size ≠ 0 := fun h => hb (.inl h)
          have HBS : Hid (spk k = false) := Lib.hid (by by_cases h : spk k = true
                                                        · exact absurd (.inr (.inl h)) hb
                                                        · simpa using h)
          have HBK : Hid (decide (fc 0 k < k.size) = false) := Lib.hid (decide_eq_false (fun h => hb (.inr (.inr (.inl h)))))
          have HBV : Hid (decide (fc 0 v < v.size) = false) := Lib.hid (decide_eq_false (fun h => hb (.inr (.inr (.inr h)))))
          obtain ⟨v1, v2⟩ := empty_no b1
          clear hb hm b1
          go_wp2_with fail
          refine (specRead' s k v r 1 _ (by omega) HV).mono ?_
          rintro e w1 ⟨rfl, hb1⟩
          have HB1 := Lib.hid ((hW.out.trans (hb1.mono hW.out.size)).alloc (o := .cells #[.string k, .string v] 23) (by have := hW.out.size; have := hb1.size; omega))
          have HR1 := Lib.hid (((hR.out.below hb1).more hb1.size).alloc (Nat.le_refl _) (.cells #[.string k, .string v] 23))
          clear hb1
          go_wp2_with (first
            | (go_at_call 49; refine (sparseKey_any k _ _ (by omega) HBS).mono ?_; rintro e w' ⟨rfl, rfl⟩)
            | (go_at_call 15; first | (refine (specNUL k _ _ (by omega) HBK).mono ?_; rintro e w' ⟨rfl, rfl⟩; clear HBK) | (refine (specNUL v _ _ (by omega) HBV).mono ?_; rintro e w' ⟨rfl, rfl⟩))
            | (go_at_call 50; refine (specWith A n c w1.heap.size (tab dn) k v _ hN.out HR1.out (by simp) (by omega)).mono ?_; rintro e w3 ⟨v3, rfl, ho3, hb3⟩; obtain ⟨A3, c3, rfl, _, _, _⟩ := own_form ho3; rw [HM.out] at ho3 ⊢; have HB3 := Lib.hid (HB1.out.trans (hb3.mono HB1.out.size)); have HR3 : Hid (RC w3 w3.heap.size A3 (recsV (tab (dn ++ [(k, v)])))) := Lib.hid (by rw [← HTAB.out]; exact RC.of_own ho3); clear ho3 hb3))
          go_roundw
          case rel => exact ⟨r, dn ++ [(k, v)], A3, m, c3, rfl, rfl, by rw [List.length_append, List.length_singleton]; omega, by rw [List.length_append, List.length_singleton]; omega, Lib.hid (by rw [← HTAB.out, HM.out]), HR3, HPC, HB3⟩
          case measure => simp [strSize]; omega
      · have HPR := Lib.hid (hP.out [] x (by have h := PR.stop (s := s) H0.out (by rw [HV.out]; exact hx1); rw [HV.out] at h; exact h))
        have HX := Lib.hid hx
        have hx2 : x = 0 ∨ x = 2 := by omega
        have hkv := readV_sizes s
        clear hx hx1
        rcases hx2 with rfl | rfl
        all_goals
          go_wp2_with fail
          refine (specRead' s k v r _ _ (by omega) HV).mono ?_
          rintro e w1 ⟨rfl, hb1⟩
          have HB1 := Lib.hid ((hW.out.trans (hb1.mono hW.out.size)).alloc (o := .cells #[.string k, .string v] 23) (by have := hW.out.size; have := hb1.size; omega))
          clear hb1
          go_wp2
          go_ret2
          exact ⟨dn ++ [], _, none, 0, 0, HPR.out, rfl, by simp, (fun h => by cases h), HB1.out⟩
end Go.Proofs.YtlchagphjmfooaaDoor
