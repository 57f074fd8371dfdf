/- Inversion of pieces: the callers' walks, and what inverted pieces cover. -/
import Derived.Test.YtiahifohkhdmdaaInvert
namespace Go.Proofs.Ytiahifohkhdmdaa
open Go.RowKit

set_option maxRecDepth 20000 in
set_option maxHeartbeats 400000 in
theorem invert_any (v : Value) (n base : Nat) (ps : List (Int × Int)) (size : Int) (w : World) (hn : ps.length = n) (how : w.ownsRow base 73 2 v n (pcs ps)) (hB : base ≤ w.heap.size) (hbig : n ≤ 2147483646)
    (hok : ∀ j, j < n → okP ps size j) (hs : 0 ≤ size) (hs' : size ≤ 1099511627776) :
    Calls Try.prog 43 #[v, .int .i64 size] w (Turned 73 base (inv ps size) w) := by
  rcases how.2 with ⟨rfl, h0⟩ | ⟨g, cap, cur, rfl, hbg, _⟩
  · subst h0
    obtain rfl : ps = [] := List.eq_nil_of_length_eq_zero hn
    clear how hn hok
    have hz := zero_entry
    have HRC : Hid (RC ((w.alloc (.cells #[.int .i64 0, .int .i64 size] 73)).alloc (.cells #[.int .i64 0, .int .i64 size] 73)) (w.heap.size + 2) (some ⟨w.heap.size + 1, 0, none⟩) [.int .i64 0, .int .i64 size]) := rc_new2 _ _ _ _
    have HSB : Hid (Below base w ((w.alloc (.cells #[.int .i64 0, .int .i64 size] 73)).alloc (.cells #[.int .i64 0, .int .i64 size] 73))) := ((Below.refl _ _).alloc hB _).alloc (by simp; omega) _
    have HOW : Hid (((w.alloc (.cells #[.int .i64 0, .int .i64 size] 73)).alloc (.cells #[.int .i64 0, .int .i64 size] 73)).ownsRow base 73 2 (.slice none 0 0) 0 []) := World.ownsRow_nil _ _ _ _
    have HPC : Hid (pcs (inv [] size) = [.int .i64 0, .int .i64 size]) := by show _ = _; simp [inv, ipre, ipos, pcs]
    have HNK : Hid ((inv [] size).length = 1) := rfl
    go_enter Try.func43, Try.ntmps43
    go_wp2
    refine wp_loop_rounds 1 ?_
    rw [rounds_succ]
    go_wp2_with (at_builtin; refine wpList_append_rc (o := ⟨some 45, _, _, _, _, _⟩) _ rfl (.tmp 42) (.tmp 44) _ rfl base 73 _ 2 16 Try.underlying64 pinfo_entry rfl (by omega) (.slice none 0 0) 0 [] rfl HOW.out _ 1 1 (w.heap.size + 2) _ rfl rfl HRC.out (two_one _ _) (by omega) (by omega) (by simp; omega) ?_)
    intro v' w1 h1 h2 h3
    go_wp2
    go_ret
    refine ⟨_, rfl, by rw [HNK.out, HPC.out]; exact h1.out, HSB.out.grown h2.out (by simp; omega) (fun g' hg' => by simp [Value.ownBlock] at hg')⟩
  · exact invert_some g n cap base ps size w hn how hB hbig hok hs hs'

/-! ### What the holes cover -/
theorem okP_snoc (a : List (Int × Int)) (p : Int × Int) (size : Int) (h : ∀ j, j < a.length → okP a size j) (h1 : ve a a.length ≤ p.1 ∧ 0 ≤ p.2 ∧ p.1 + p.2 ≤ size) : ∀ j, j < (a ++ [p]).length → okP (a ++ [p]) size j := by
  intro j hj
  rw [List.length_append, List.length_singleton] at hj
  unfold okP
  rw [ve_prefix a [p] j (by omega)]
  by_cases hja : j < a.length
  · rw [po_prefix a [p] j hja, pl_prefix a [p] j hja]
    exact h j hja
  · obtain rfl : j = a.length := by omega
    rw [po_last, pl_last]
    exact h1
theorem okP_more {a : List (Int × Int)} {s s' : Int} (h : ∀ j, j < a.length → okP a s j) (hs : s ≤ s') : ∀ j, j < a.length → okP a s' j := by
  intro j hj
  have := h j hj
  unfold okP at this ⊢
  omega
/-- The closed holes are in order and end where the open one begins; together with the pieces they have each place up to there, and no place twice. -/
theorem ipre_ok (ps : List (Int × Int)) (size : Int) : ∀ k, (∀ j, j < k → okP ps size j) →
    (∀ j, j < (ipre ps k).length → okP (ipre ps k) (ipos ps k) j) ∧ ∀ x : Nat, cov (ipre ps k) (ipre ps k).length x + cov ps k x = if (x : Int) < ipos ps k then 1 else 0
  | 0, _ => by
    refine ⟨fun j hj => by simp [ipre] at hj, fun x => ?_⟩
    have : ¬ ((x : Int) < ipos ps 0) := by show ¬ ((x : Int) < 0); omega
    rw [if_neg this]
    rfl
  | k + 1, h => by
    obtain ⟨h1, h2⟩ := ipre_ok ps size k (fun j hj => h j (by omega))
    have hk := h k (by omega)
    obtain ⟨b1, b2⟩ := ipos_bd k (fun j hj => h j (by omega))
    unfold okP at hk
    have hve : ve (ipre ps k) (ipre ps k).length ≤ ipos ps k := by
      rcases ve_le h1 with h0 | h0
      · rw [h0]; exact b1
      · exact h0
    have hcv : ∀ x : Nat, cov ps (k + 1) x = cov ps k x + if po ps k ≤ x ∧ (x : Int) < po ps k + pl ps k then 1 else 0 := fun x => rfl
    by_cases hl : pl ps k = 0
    · have e1 : ipre ps (k + 1) = ipre ps k := by rw [ipre, if_pos hl]
      have e2 : ipos ps (k + 1) = ipos ps k := by rw [ipos, if_pos hl]
      rw [e1, e2]
      refine ⟨h1, fun x => ?_⟩
      have := h2 x
      rw [hcv, if_neg (show ¬ (po ps k ≤ x ∧ (x : Int) < po ps k + pl ps k) by omega)]
      omega
    · have e2 : ipos ps (k + 1) = po ps k + pl ps k := by rw [ipos, if_neg hl]
      by_cases hd : 0 < po ps k - ipos ps k
      · have e1 : ipre ps (k + 1) = ipre ps k ++ [(ipos ps k, po ps k - ipos ps k)] := by rw [ipre, if_neg hl, if_pos hd]
        rw [e1, e2]
        refine ⟨okP_snoc _ _ _ (okP_more h1 (by omega)) ⟨hve, by simp only []; omega, by simp only []; omega⟩, fun x => ?_⟩
        have h3 := h2 x
        rw [List.length_append, List.length_singleton, cov_snoc, hcv]
        unfold ind
        simp only []
        by_cases c1 : (x : Int) < ipos ps k
        · rw [if_pos c1] at h3
          rw [if_neg (by omega), if_neg (by omega), if_pos (by omega)]
          omega
        · rw [if_neg c1] at h3
          by_cases c2 : (x : Int) < po ps k
          · rw [if_pos (by omega), if_neg (by omega), if_pos (by omega)]
            omega
          · rw [if_neg (by omega)]
            by_cases c3 : (x : Int) < po ps k + pl ps k
            · rw [if_pos (by omega), if_pos c3]; omega
            · rw [if_neg (by omega), if_neg c3]; omega
      · have e1 : ipre ps (k + 1) = ipre ps k := by rw [ipre, if_neg hl, if_neg hd]
        rw [e1, e2]
        refine ⟨okP_more h1 (by omega), fun x => ?_⟩
        have h3 := h2 x
        rw [hcv]
        by_cases c1 : (x : Int) < ipos ps k
        · rw [if_pos c1] at h3
          rw [if_neg (by omega), if_pos (by omega)]
          omega
        · rw [if_neg c1] at h3
          by_cases c3 : (x : Int) < po ps k + pl ps k
          · rw [if_pos (by omega), if_pos c3]; omega
          · rw [if_neg (by omega), if_neg c3]; omega
theorem inv_ok (ps : List (Int × Int)) (size : Int) (hs : 0 ≤ size) (h : ∀ j, j < ps.length → okP ps size j) :
    (∀ j, j < (inv ps size).length → okP (inv ps size) size j) ∧ (∀ x : Nat, (x : Int) < size → cov (inv ps size) (inv ps size).length x + cov ps ps.length x = 1) ∧
      po (inv ps size) ((inv ps size).length - 1) + pl (inv ps size) ((inv ps size).length - 1) = size := by
  obtain ⟨h1, h2⟩ := ipre_ok ps size ps.length h
  obtain ⟨b1, b2⟩ := ipos_bd ps.length h
  have b3 : ipos ps ps.length ≤ size := by
    rcases ve_le h with h0 | h0
    · have : ve ps ps.length = 0 := by rw [h0]; rfl
      omega
    · omega
  have hve : ve (ipre ps ps.length) (ipre ps ps.length).length ≤ ipos ps ps.length := by
    rcases ve_le h1 with h0 | h0
    · rw [h0]; exact b1
    · exact h0
  unfold inv
  refine ⟨okP_snoc _ _ _ (okP_more h1 b3) ⟨hve, by simp only []; omega, by simp only []; omega⟩, fun x hx => ?_, ?_⟩
  · have h3 := h2 x
    rw [List.length_append, List.length_singleton, cov_snoc]
    unfold ind
    simp only []
    by_cases c1 : (x : Int) < ipos ps ps.length
    · rw [if_pos c1] at h3
      rw [if_neg (by omega)]
      omega
    · rw [if_neg c1] at h3
      rw [if_pos (by omega)]
      omega
  · rw [List.length_append, List.length_singleton, Nat.add_sub_cancel, po_last, pl_last]
    simp only []
    omega
theorem ok_within (ps : List (Int × Int)) (size : Int) (h : ∀ j, j < ps.length → okP ps size j) : Within ps size := by
  intro k hk
  have h1 := h k hk
  have h2 := ve_nonneg (ps := ps) (size := size) (k := k) (fun j hj => h j (by omega))
  unfold okP at h1
  omega
theorem ok_fit (ps : List (Int × Int)) (size : Int) (hs : size ≤ 1099511627776) (h : ∀ j, j < ps.length → okP ps size j) : Fit ps := by
  intro p hp
  obtain ⟨j, hj, rfl⟩ := List.getElem_of_mem hp
  have h1 := ok_within ps size h j hj
  have e : ps.getD j (0, 0) = ps[j] := by simp [List.getD, hj]
  unfold po pl at h1
  rw [e] at h1
  omega
theorem gen_ok {ps : List (Int × Int)} {sz all : Int} (h : Gen ps sz all) : 0 ≤ sz ∧ ∀ j, j < ps.length → okP ps sz j := by
  have h0 := ve_okG ps ps.length h.ok
  have hlo := h.lo
  refine ⟨by omega, fun j hj => ?_⟩
  have hj1 := h.ok j hj
  have hm : ∀ i, i ≤ ps.length → ∀ k, k ≤ i → ve ps k ≤ ve ps i := by
    intro i
    induction i with
    | zero => intro _ k hk; obtain rfl : k = 0 := by omega
              exact Int.le_refl _
    | succ i ih =>
      intro hi k hk
      by_cases hki : k ≤ i
      · have h1 := ih (by omega) k hki
        have h2 := h.ok i (by omega)
        unfold okG at h2
        rw [ve.eq_2]
        omega
      · obtain rfl : k = i + 1 := by omega
        exact Int.le_refl _
  have h3 := hm ps.length (Nat.le_refl _) (j + 1) (by omega)
  unfold okG at hj1
  unfold okP
  have e : ve ps (j + 1) = po ps j + pl ps j := rfl
  omega

set_option maxRecDepth 20000 in
set_option maxHeartbeats 400000 in
theorem zzInvert_any (A : Option Addr) (n c B : Nat) (ps : List (Int × Int)) (size : Int) (w : World) (hn : ps.length = n) (hr : RC w B A (pcs ps)) (hB : B ≤ w.heap.size) (hbig : n ≤ 2147483646)
    (hok : ∀ j, j < ps.length → okP ps size j) (hs : 0 ≤ size) (hs' : size ≤ 1099511627776) :
    Calls Try.prog 33 #[.slice A n c, .int .i64 size] w (Made 66 (inv ps size).length (inv ps size) w) := by
  have H := Lib.hid (zzIn_any A n c B ps w hn hr hB (by omega))
  have HN := Lib.hid hn
  have HE := Lib.hid hok
  have hal := (inv_len ps size).1
  rw [hn] at hal
  clear hn hr hok
  go_enter Try.func33, Try.ntmps33
  go_wp2_with fail
  refine H.out.mono ?_
  rintro e w1 ⟨v, rfl, hown, hb1⟩
  have H2 := Lib.hid (invert_any v n w.heap.size ps size w1 HN.out hown hb1.size hbig (by rw [← HN.out]; exact HE.out) hs hs')
  have HB1 := Lib.hid hb1
  clear hown hb1
  go_wp2_with fail
  refine H2.out.mono ?_
  rintro e w2 ⟨v2, rfl, hown2, hb2⟩
  obtain ⟨A', c', rfl, _, _, _⟩ := own_form hown2
  have H3 := Lib.hid (zzOut_any A' _ c' w2.heap.size (inv ps size) w2 rfl (RC.of_own hown2) (Nat.le_refl _) (by omega))
  have HB2 := Lib.hid (HB1.out.trans hb2)
  clear hown2 hb2
  go_wp2_with fail
  refine H3.out.mono ?_
  rintro e w3 ⟨v3, rfl, hown3, hb3⟩
  have HO := Lib.hid hown3
  clear hown3
  go_wp2
  go_ret
  refine ⟨_, rfl, ⟨HO.out.1, ?_⟩, HB2.out.trans (hb3.mono HB2.out.size)⟩
  rcases HO.out.2 with h | ⟨g, cap, cur, h1, h2, h3⟩
  · exact .inl h
  · exact .inr ⟨g, cap, cur, h1, Nat.le_trans HB2.out.size h2, h3⟩

set_option maxRecDepth 20000 in
set_option maxHeartbeats 400000 in
theorem implInvert_any (A : Option Addr) (n c B : Nat) (ps : List (Int × Int)) (size : Int) (w : World) (hn : ps.length = n) (hr : RC w B A (pcs ps)) (hB : B ≤ w.heap.size) (hbig : n ≤ 2147483646)
    (hok : ∀ j, j < ps.length → okP ps size j) (hs : 0 ≤ size) (hs' : size ≤ 1099511627776) :
    Calls Try.prog 22 #[.slice A n c, .int .i64 size] w (Made 32 (inv ps size).length (inv ps size) w) := by
  have H := Lib.hid (implPieces_any A n c B ps w hn hr hB (by omega))
  have HN := Lib.hid hn
  have HE := Lib.hid hok
  have hal := (inv_len ps size).1
  rw [hn] at hal
  clear hn hr hok
  go_enter Try.func22, Try.ntmps22
  go_wp2_with fail
  refine H.out.mono ?_
  rintro e w1 ⟨v, rfl, hown, hb1⟩
  obtain ⟨A', c', rfl, _, _, _⟩ := own_form hown
  have H2 := Lib.hid (zzInvert_any A' n c' w1.heap.size ps size w1 HN.out (RC.of_own hown) (Nat.le_refl _) hbig HE.out hs hs')
  have HB1 := Lib.hid hb1
  clear hown hb1
  go_wp2_with fail
  refine H2.out.mono ?_
  rintro e w2 ⟨v2, rfl, hown2, hb2⟩
  obtain ⟨A', c', rfl, _, _, _⟩ := own_form hown2
  have H3 := Lib.hid (implBack_any A' _ c' w2.heap.size (inv ps size) w2 rfl (RC.of_own hown2) (Nat.le_refl _) (by omega))
  have HB2 := Lib.hid (HB1.out.trans (hb2.mono HB1.out.size))
  clear hown2 hb2
  go_wp2_with fail
  refine H3.out.mono ?_
  rintro e w3 ⟨v3, rfl, hown3, hb3⟩
  have HO := Lib.hid hown3
  clear hown3
  go_wp2
  go_ret
  refine ⟨_, rfl, ⟨HO.out.1, ?_⟩, HB2.out.trans (hb3.mono HB2.out.size)⟩
  rcases HO.out.2 with h | ⟨g, cap, cur, h1, h2, h3⟩
  · exact .inl h
  · exact .inr ⟨g, cap, cur, h1, Nat.le_trans HB2.out.size h2, h3⟩
end Go.Proofs.Ytiahifohkhdmdaa
