/- Walks of nine, formatPAXTime, ZZPutTime, impl.PutTime. -/
import Derived.Test.YtlchagphjmfooaaDoorTimU
import Derived.Test.YtlchagphjmfooaaDoorTrim
import Derived.Test.YtlchagphjmfooaaDoorFmt
namespace Go.Proofs.YtlchagphjmfooaaDoor
open Go.RowKit Go.PlainAid
set_option linter.unusedVariables false

/-! ### Decimal numbers of the library -/
/-- An int64 as decimal text. -/
def intL (i : Int) : List UInt8 := if i < 0 then 45 :: numL i.natAbs else numL i.toNat
theorem formatInt10 (i : Int) (w : World) (h0 : -9223372036854775808 ≤ i) (h1 : i ≤ 9223372036854775807) (ht : Tab w) :
    Calls Tryd.prog 81 #[.int .i64 i, .int .i64 10] w fun e w' => e = .returned (.string (mkS (intL i))) ∧ Below w.heap.size w w' := by
  refine (Tryd.strconv_FormatInt_10 i h0 h1 w ht).mono ?_
  rintro e w' ⟨rfl, k, os, rfl⟩
  refine ⟨?_, Lib.below_grow _ _ (Nat.le_refl _) _ _⟩
  have : Lib.itoa i = intL i := by
    unfold Lib.itoa intL
    rw [decDigits_eq, decDigits_eq]
  rw [this]
  rfl
theorem vl_pad (k : Nat) (l : List UInt8) : vl 0 (List.replicate k 48 ++ l) = vl 0 l := by
  rw [vl_app, vl_zeros, Nat.zero_mul]
/-- n with nine digits. -/
def NineOk (q : ByteArray) (n : Nat) : Prop := q.size ≤ 9 ∧ ∃ k, q.data.toList = List.replicate k 48 ++ numL n
theorem nine_more {q : ByteArray} {n : Nat} (h : NineOk q n) (hs : q.size < 9) : NineOk (⟨#[48]⟩ ++ q) n := by
  obtain ⟨h1, k, h2⟩ := h
  refine ⟨by rw [ByteArray.size_append]; have : (⟨#[48]⟩ : ByteArray).size = 1 := rfl; omega, k + 1, ?_⟩
  rw [app_list, h2, List.replicate_succ]
  rfl
theorem nine_end {q : ByteArray} {n : Nat} (h : NineOk q n) (hs : ¬ q.size < 9) : q.size = 9 ∧ allDig q.data.toList ∧ nano q.data.toList = n := by
  obtain ⟨h1, k, h2⟩ := h
  have h9 : q.size = 9 := by omega
  refine ⟨h9, ?_, ?_⟩
  · intro c hc
    rw [h2] at hc
    rcases List.mem_append.1 hc with h3 | h3
    · rw [(List.mem_replicate.1 h3).2]; unfold dig; decide
    · exact numL_dig n c h3
  · rw [nano_nine (by rw [sz_l]; exact h9), h2, vl_pad, numL_vl]
set_option maxRecDepth 20000 in
set_option maxHeartbeats 800000 in
theorem nine_ok (n : Nat) (w : World) (hn : n < 1000000000) (ht : Tab w) :
    Calls Tryd.prog 83 #[.int .i64 n] w fun e w' => (∃ q : ByteArray, q.size = 9 ∧ allDig q.data.toList ∧ nano q.data.toList = n ∧ e = .returned (.string q)) ∧ Below w.heap.size w w' := by
  have HT := Lib.hid ht
  have hl : (numL n).length ≤ 9 := by
    rcases Nat.lt_or_ge 9 (numL n).length with h1 | h1
    · have h10 : 10 ≤ n := by
        rcases Nat.lt_or_ge n 10 with h2 | h2
        · rw [numL_small h2] at h1; simp at h1
        · exact h2
      have g := numL_ge n h10
      have := Nat.pow_le_pow_right (n := 10) (by omega) (show 9 ≤ (numL n).length - 1 by omega)
      have e : (10 : Nat) ^ 9 = 1000000000 := by decide
      omega
    · exact h1
  have H0 : Hid (NineOk (numB n) n) := Lib.hid ⟨by rw [numB_size]; exact hl, 0, by rw [numB_list]; rfl⟩
  clear ht hl
  go_enter Tryd.func83, Tryd.ntmps83
  go_wp2_with fail
  refine (itoa_nat n _ (by omega) HT.out).mono ?_
  rintro e w1 ⟨rfl, hb1⟩
  have HB1 := Lib.hid hb1
  clear hb1
  go_wp2
  go_loop [3] (fun v => ∃ q : ByteArray, v = .string q ∧ q.size ≤ 9 ∧ Hid (NineOk q n)) (fun v => (match v with | .string q => 9 - q.size | _ => 0))
  case atStart => exact ⟨numB n, rfl, H0.out.1, H0⟩
  case round =>
    obtain ⟨q, rfl, hq9, hq⟩ := hrel
    by_cases hlt : q.size < 9
    · have hlt' : (q.size : Int) < 9 := by omega
      have hz : (⟨#[48]⟩ : ByteArray).size = 1 := rfl
      have hc : 1 + q.size ≤ 9223372036854775807 := by omega
      have HQ := Lib.hid (nine_more hq.out hlt)
      have hqz : (⟨#[48]⟩ ++ q).size = 1 + q.size := by rw [ByteArray.size_append]; rfl
      go_wp2
      go_round
      case rel => exact ⟨_, rfl, by omega, HQ⟩
      case measure => simp only [hqz]; omega
    · have hlt' : ¬ (q.size : Int) < 9 := by omega
      have HE := Lib.hid (nine_end hq.out hlt)
      go_wp2
      go_ret
      exact ⟨⟨q, HE.out.1, HE.out.2.1, HE.out.2.2, rfl⟩, HB1.out⟩

/-! ### The trimmed text -/
theorem trim_text {b : Bool} {W N : Nat} {S q : ByteArray} {m : Nat} (hS : S.data.toList = sgB b ++ numL W) (hq : q.size = 9) (hd : allDig q.data.toList) (hn : nano q.data.toList = N) (hN : 0 < N)
    (hm : Trimmed 48 (S ++ ⟨#[46]⟩ ++ q) m) : ∃ P, TimText ((S ++ ⟨#[46]⟩ ++ q).extract 0 m) b W N P ∧ P.length ≤ 9 := by
  obtain ⟨h1, h2, h3⟩ := hm
  have hz : (⟨#[46]⟩ : ByteArray).size = 1 := rfl
  have hsz : (S ++ ⟨#[46]⟩ ++ q).size = S.size + 1 + 9 := by rw [ByteArray.size_append, ByteArray.size_append, hz, hq]
  have hl : (S ++ ⟨#[46]⟩ ++ q).data.toList = (S.data.toList ++ [46]) ++ q.data.toList := by rw [app_list, app_list]
  have hl1 : (S.data.toList ++ [46]).length = S.size + 1 := by rw [List.length_append, sz_l]; rfl
  have hq9 : q.data.toList.length = 9 := by rw [sz_l]; exact hq
  -- what is cut off is noughts
  have hcut : ∀ j, m ≤ S.size + 1 + j → j < 9 → q.data.toList[j]? = some 48 := by
    intro j a1 a2
    have e := h2 (S.size + 1 + j) a1 (by omega)
    obtain ⟨c, e1, e2⟩ := bt_of (S ++ ⟨#[46]⟩ ++ q) (S.size + 1 + j) (by omega)
    rw [hl, List.getElem?_append_right (by omega), hl1, Nat.add_sub_cancel_left] at e1
    rw [e1]
    have : c = 48 := UInt8.toNat_inj.1 (by have : (48 : UInt8).toNat = 48 := rfl; omega)
    rw [this]
  have htail : ∀ k, m = S.size + 1 + k → k ≤ 9 → q.data.toList = q.data.toList.take k ++ List.replicate (9 - k) 48 := by
    intro k a1 a2
    apply List.ext_getElem?
    intro i
    by_cases hi : i < k
    · rw [List.getElem?_append_left (by rw [List.length_take]; omega), List.getElem?_take, if_pos hi]
    · rw [List.getElem?_append_right (by rw [List.length_take]; omega), List.length_take, Nat.min_eq_left (by omega), List.getElem?_replicate]
      by_cases hi9 : i < 9
      · rw [if_pos (by omega)]; exact hcut i (by omega) hi9
      · rw [if_neg (by omega), List.getElem?_eq_none (by omega)]
  have hmk : S.size + 1 < m := by
    rcases Nat.lt_or_ge (S.size + 1) m with h | h
    · exact h
    · exfalso
      have e : q.data.toList = List.replicate 9 48 := by
        apply List.ext_getElem?
        intro i
        rw [List.getElem?_replicate]
        by_cases hi9 : i < 9
        · rw [if_pos hi9]; exact hcut i (by omega) hi9
        · rw [if_neg hi9, List.getElem?_eq_none (by omega)]
      rw [nano_nine hq9, e, vl_zeros, Nat.zero_mul] at hn
      omega
  obtain ⟨k, hk⟩ : ∃ k, m = S.size + 1 + k := ⟨m - (S.size + 1), by omega⟩
  have hk9 : k ≤ 9 := by omega
  have ht := htail k hk hk9
  have hP : q.data.toList.take k ≠ [] := by
    intro e
    have := congrArg List.length e
    rw [List.length_take, List.length_nil, hq9] at this
    omega
  refine ⟨q.data.toList.take k, ⟨?_, ?_, ?_⟩, by rw [List.length_take]; omega⟩
  · rw [if_neg hP, Lib.extract_data, List.drop_zero, Nat.sub_zero, hl, hk, ← hl1, List.take_length_add_append, hS]
    show sgB b ++ numL W ++ [46] ++ _ = sgB b ++ numL W ++ _
    simp
  · intro c hc
    exact hd c (List.mem_of_mem_take hc)
  · rw [← nano_zeros _ (9 - k), ← ht]; exact hn
theorem int_text (i : Int) (W : Nat) (b : Bool) (h : i = if b = true then -(W : Int) else (W : Int)) (hW : b = true → 0 < W) : (mkS (intL i)).data.toList = sgB b ++ numL W := by
  unfold intL
  cases b with
  | true =>
    rw [if_pos rfl] at h
    have := hW rfl
    rw [if_pos (by omega)]
    have : i.natAbs = W := by omega
    rw [this]
    simp [mkS, sgB]
  | false =>
    rw [if_neg (by decide)] at h
    rw [if_neg (by omega)]
    have : i.toNat = W := by omega
    rw [this]
    simp [mkS, sgB]
theorem bare_text {b : Bool} {W : Nat} {T : ByteArray} (hT : T.data.toList = sgB b ++ numL W) : TimText T b W 0 [] := by
  refine ⟨?_, fun c hc => by simp at hc, nano_nil⟩
  rw [if_pos rfl, List.append_nil, hT]
  rfl
theorem intL_size (i : Int) (h0 : -9223372036854775808 ≤ i) (h1 : i ≤ 9223372036854775807) : (mkS (intL i)).size ≤ 20 := by
  have e : (mkS (intL i)).size = (intL i).length := by show (intL i).toArray.size = _; simp
  rw [e]
  unfold intL
  split
  · rename_i hneg
    rw [List.length_cons]
    rcases Nat.lt_or_ge i.natAbs 9223372036854775808 with h | h
    · have := numL_le19 (n := i.natAbs) (by omega)
      omega
    · have e2 : i.natAbs = 9223372036854775808 := by omega
      rw [e2, numL_len (k := 18) (by decide) (by decide)]
      omega
  · have := numL_le19 (n := i.toNat) (by omega)
    omega

/-! ### formatPAXTime -/
def FmtT (b : Bool) (W N : Nat) (w : World) (e : Ending) (w' : World) : Prop := (∃ T P, TimText T b W N P ∧ P.length ≤ 9 ∧ T.size ≤ 100 ∧ e = .returned (.string T)) ∧ Below w.heap.size w w'
set_option maxRecDepth 20000 in
set_option maxHeartbeats 1600000 in
theorem fmtT_whole (x sec : Int) (b : Bool) (W : Nat) (w : World) (hx : wrap64 (x + -62135596800) = sec) (h0 : -100000000000000000 ≤ sec) (h1 : sec ≤ 100000000000000000) (hb : sec = if b = true then -(W : Int) else (W : Int)) (hW : b = true → 0 < W) (hT : Tab w) :
    Calls Tryd.prog 63 #[.agg #[.int .u64 0, .int .i64 x]] w (FmtT b W 0 w) := by
  have HU := fun w => Lib.hid (unixM 0 x sec w (by decide) (by decide) hx)
  have HV := fun w => Lib.hid (nanoM 0 x w (by decide) (by decide))
  have HBB : Hid (Below w.heap.size w ((((w.alloc (.cells #[.int .u64 0, .int .i64 x] 110)).alloc (.cells #[.int .u64 0, .int .i64 x] 110)).alloc (.cells #[.int .u64 0, .int .i64 x] 110)).drew)) := Lib.hid (by
    have a1 := (Below.refl w.heap.size w).alloc (Nat.le_refl _) (.cells #[.int .u64 0, .int .i64 x] 110)
    have a2 := a1.alloc a1.size (.cells #[.int .u64 0, .int .i64 x] 110)
    exact (a2.alloc a2.size _).drew)
  have HT := Lib.hid (tab_below hT HBB.out)
  have HX := Lib.hid (bare_text (int_text sec W b hb hW))
  have HS := Lib.hid (intL_size sec (by omega) (by omega))
  clear hx hT hb hW
  go_enter Tryd.func63, Tryd.ntmps63
  go_wp2
  go_region_held3 (fun w' => w'.cell? ⟨w.heap.size, 0, none⟩ = some (.int .u64 0) ∧ w'.cell? ⟨w.heap.size, 1, none⟩ = some (.int .i64 x)) (refine ⟨?_, ?_⟩ <;> (simp [go_sem, World.cell?_alloc_past]; done)) (first
    | (go_at_call 57; refine (HU _).out.mono ?_; rintro e w2 ⟨rfl, rfl⟩)
    | (go_at_call 58; refine (HV _).out.mono ?_; rintro e w2 ⟨rfl, rfl⟩))
  go_wp2_with fail
  refine (formatInt10 sec _ (by omega) (by omega) HT.out).mono ?_
  rintro e w3 ⟨rfl, hb3⟩
  have HB3 : Hid (Below w.heap.size w w3) := Lib.hid (HBB.out.trans (hb3.mono HBB.out.size))
  clear hb3
  go_wp2
  go_ret
  exact ⟨⟨_, _, HX.out, by simp, by have := HS.out; omega, rfl⟩, HB3.out⟩
set_option maxRecDepth 20000 in
set_option maxHeartbeats 3200000 in
theorem fmtT_part (x sec : Int) (ns N W : Nat) (b : Bool) (w : World) (hx : wrap64 (x + -62135596800) = sec) (h0 : -100000000000000000 ≤ sec) (h1 : sec ≤ 100000000000000000) (hn0 : 0 < ns) (hn9 : ns < 1000000000)
    (hb : (b = false ∧ sec = (W : Int) ∧ N = ns) ∨ (b = true ∧ sec = -(W : Int) - 1 ∧ N + ns = 1000000000)) (hT : Tab w) :
    Calls Tryd.prog 63 #[.agg #[.int .u64 ns, .int .i64 x]] w (FmtT b W N w) := by
  have HU := fun w => Lib.hid (unixM ns x sec w (by omega) (by omega) hx)
  have HV := fun w => Lib.hid (nanoM ns x w (by omega) (by omega))
  have HBB : Hid (Below w.heap.size w ((((w.alloc (.cells #[.int .u64 ns, .int .i64 x] 110)).alloc (.cells #[.int .u64 ns, .int .i64 x] 110)).alloc (.cells #[.int .u64 ns, .int .i64 x] 110)).drew)) := Lib.hid (by
    have a1 := (Below.refl w.heap.size w).alloc (Nat.le_refl _) (.cells #[.int .u64 ns, .int .i64 x] 110)
    have a2 := a1.alloc a1.size (.cells #[.int .u64 ns, .int .i64 x] 110)
    exact (a2.alloc a2.size _).drew)
  have HT := Lib.hid (tab_below hT HBB.out)
  have hns1 : ¬ (ns : Int) = 0 := by omega
  have hz0 : (⟨#[]⟩ : ByteArray).size = 0 := rfl
  have hz45 : (⟨#[45]⟩ : ByteArray).size = 1 := rfl
  have hz46 : (⟨#[46]⟩ : ByteArray).size = 1 := rfl
  clear hx hT
  rcases hb with ⟨rfl, rfl, rfl⟩ | ⟨rfl, hs, hN⟩
  · have hsz := intL_size (W : Int) (by omega) (by omega)
    have HS : Hid ((mkS (intL (W : Int))).data.toList = sgB false ++ numL W) := Lib.hid (int_text (W : Int) W false (by simp) (fun h => by cases h))
    obtain ⟨S, hS⟩ : ∃ S, mkS (intL (W : Int)) = S := ⟨_, rfl⟩
    have k1 : ¬ (W : Int) < 0 := by omega
    go_enter Tryd.func63, Tryd.ntmps63
    go_wp2
    go_region_held3 (fun w' => w'.cell? ⟨w.heap.size, 0, none⟩ = some (.int .u64 N) ∧ w'.cell? ⟨w.heap.size, 1, none⟩ = some (.int .i64 x)) (refine ⟨?_, ?_⟩ <;> (simp [go_sem, World.cell?_alloc_past]; done)) (first
      | (go_at_call 57; refine (HU _).out.mono ?_; rintro e w2 ⟨rfl, rfl⟩)
      | (go_at_call 58; refine (HV _).out.mono ?_; rintro e w2 ⟨rfl, rfl⟩))
    go_wp2_with fail
    refine (formatInt10 W _ (by omega) (by omega) HT.out).mono ?_
    rw [hS] at hsz HS ⊢
    clear hS
    rintro e w3 ⟨rfl, hb3⟩
    have HB3 : Hid (Below w.heap.size w w3) := Lib.hid (HBB.out.trans (hb3.mono HBB.out.size))
    have HT3 := Lib.hid (tab_below HT.out hb3)
    clear hb3
    have g1 : S.size ≤ 9223372036854775807 := by omega
    have g2 : S.size + 1 ≤ 9223372036854775807 := by omega
    have e0 : (⟨#[]⟩ : ByteArray) ++ S = S := ba_ext (by rw [app_list]; rfl)
    go_wp2_with fail
    refine (nine_ok N _ (by omega) HT3.out).mono ?_
    rintro e w4 ⟨⟨q, hq9, hqd, hqn, rfl⟩, hb4⟩
    have HB4 : Hid (Below w.heap.size w w4) := Lib.hid (HB3.out.trans (hb4.mono HB3.out.size))
    have HQ : Hid (allDig q.data.toList ∧ nano q.data.toList = N) := Lib.hid ⟨hqd, hqn⟩
    clear hb4 hqd hqn
    have g3 : S.size + 1 + q.size ≤ 9223372036854775807 := by omega
    have hsz2 : (S ++ ⟨#[46]⟩ ++ q).size ≤ 40 := by rw [ByteArray.size_append, ByteArray.size_append]; omega
    go_wp2_with fail
    refine (trimRight1 _ 48 _ (by omega)).mono ?_
    rintro e w5 ⟨⟨m, hm, rfl⟩, k5, rfl⟩
    obtain ⟨P, hP, hP9⟩ := trim_text HS.out hq9 HQ.out.1 HQ.out.2 (by omega) hm
    have HP := Lib.hid hP
    have HP9 := Lib.hid hP9
    have HM : Hid (((S ++ ⟨#[46]⟩ ++ q).extract 0 m).size ≤ 100) := Lib.hid (by rw [ByteArray.size_extract]; omega)
    clear hP hm hP9
    go_wp2
    go_ret
    exact ⟨⟨_, P, HP.out, HP9.out, HM.out, rfl⟩, below_drewN HB4.out k5⟩
  · have h4 : sec < 0 := by omega
    have hsz := intL_size (W : Int) (by omega) (by omega)
    have HS : Hid ((⟨#[45]⟩ ++ mkS (intL (W : Int))).data.toList = sgB true ++ numL W) := Lib.hid (by rw [app_list, int_text (W : Int) W false (by simp) (fun h => by cases h)]; rfl)
    obtain ⟨S, hS⟩ : ∃ S, (⟨#[45]⟩ : ByteArray) ++ mkS (intL (W : Int)) = S := ⟨_, rfl⟩
    have hszS : S.size ≤ 21 := by rw [← hS, ByteArray.size_append]; omega
    have u1 : IntKind.i64.wrap (sec + 1) = sec + 1 := IntWalk.i64_in _ (by omega)
    have u2 : IntKind.i64.wrap (-(sec + 1)) = (W : Int) := by rw [IntWalk.i64_in _ (by omega)]; omega
    have u3 : IntKind.i64.wrap ((ns : Int) - 1000000000) = (ns : Int) - 1000000000 := IntWalk.i64_in _ (by omega)
    have u4 : IntKind.i64.wrap (-((ns : Int) - 1000000000)) = (N : Int) := by rw [IntWalk.i64_in _ (by omega)]; omega
    have hcS : 1 + (mkS (intL (W : Int))).size ≤ 9223372036854775807 := by omega
    have hW63 : (W : Int) ≤ 9223372036854775807 := by omega
    clear hs
    go_enter Tryd.func63, Tryd.ntmps63
    go_wp2
    go_region_held3 (fun w' => w'.cell? ⟨w.heap.size, 0, none⟩ = some (.int .u64 ns) ∧ w'.cell? ⟨w.heap.size, 1, none⟩ = some (.int .i64 x)) (refine ⟨?_, ?_⟩ <;> (simp [go_sem, World.cell?_alloc_past]; done)) (first
      | (go_at_call 57; refine (HU _).out.mono ?_; rintro e w2 ⟨rfl, rfl⟩)
      | (go_at_call 58; refine (HV _).out.mono ?_; rintro e w2 ⟨rfl, rfl⟩))
    go_wp2_with fail
    refine (formatInt10 W _ (by omega) (by omega) HT.out).mono ?_
    rintro e w3 ⟨rfl, hb3⟩
    have HB3 : Hid (Below w.heap.size w w3) := Lib.hid (HBB.out.trans (hb3.mono HBB.out.size))
    have HT3 := Lib.hid (tab_below HT.out hb3)
    clear hb3
    rw [hS] at HS
    have g1 : S.size ≤ 9223372036854775807 := by omega
    have g2 : S.size + 1 ≤ 9223372036854775807 := by omega
    go_wp2_with fail
    refine (nine_ok N _ (by omega) HT3.out).mono ?_
    rintro e w4 ⟨⟨q, hq9, hqd, hqn, rfl⟩, hb4⟩
    have HB4 : Hid (Below w.heap.size w w4) := Lib.hid (HB3.out.trans (hb4.mono HB3.out.size))
    have HQ : Hid (allDig q.data.toList ∧ nano q.data.toList = N) := Lib.hid ⟨hqd, hqn⟩
    clear hb4 hqd hqn
    have g3 : S.size + 1 + q.size ≤ 9223372036854775807 := by omega
    have hsz2 : (S ++ ⟨#[46]⟩ ++ q).size ≤ 40 := by rw [ByteArray.size_append, ByteArray.size_append]; omega
    go_wp2_with fail
    refine (trimRight1 _ 48 _ (by omega)).mono ?_
    rintro e w5 ⟨⟨m, hm, rfl⟩, k5, rfl⟩
    obtain ⟨P, hP, hP9⟩ := trim_text HS.out hq9 HQ.out.1 HQ.out.2 (by omega) hm
    have HP := Lib.hid hP
    have HP9 := Lib.hid hP9
    have HM : Hid (((S ++ ⟨#[46]⟩ ++ q).extract 0 m).size ≤ 100) := Lib.hid (by rw [ByteArray.size_extract]; omega)
    clear hP hm hP9
    go_wp2
    go_ret
    exact ⟨⟨_, P, HP.out, HP9.out, HM.out, rfl⟩, below_drewN HB4.out k5⟩

/-! ### ZZPutTime, impl.PutTime -/
set_option maxRecDepth 20000 in
set_option maxHeartbeats 800000 in
theorem zzPutT {sec ns : Int} {b : Bool} {W N : Nat} (w : World) (h3 : 0 ≤ ns) (h4 : ns < 1000000000) (hs : -9223372036854775808 ≤ sec ∧ sec ≤ 9223372036854775807)
    (HF : ∀ x w', wrap64 (x + -62135596800) = sec → Below w.heap.size w w' → Calls Tryd.prog 63 #[.agg #[.int .u64 ns, .int .i64 x]] w' (FmtT b W N w')) :
    Calls Tryd.prog 46 #[.int .i64 sec, .int .i64 ns] w (FmtT b W N w) := by
  obtain ⟨x, hx⟩ : ∃ x, IntKind.i64.wrap (sec + 62135596800) = x := ⟨_, rfl⟩
  have HU := Lib.hid (unix_pos sec ns x w h3 h4 hx)
  have HX : Hid (wrap64 (x + -62135596800) = sec) := Lib.hid (by rw [← hx]; exact back sec hs)
  have H2 := Lib.hid HF
  clear HF hx
  go_enter Tryd.func46, Tryd.ntmps46
  go_wp2_with fail
  refine HU.out.mono ?_
  rintro e w1 ⟨rfl, hb1⟩
  have HB1 := Lib.hid hb1
  clear hb1
  go_wp2_with fail
  refine (H2.out x _ HX.out HB1.out).mono ?_
  rintro e w2 ⟨⟨T, P, hT, hP, hs, rfl⟩, hb2⟩
  have HT := Lib.hid hT
  have HB2 : Hid (Below w.heap.size w w2) := Lib.hid (HB1.out.trans (hb2.mono HB1.out.size))
  clear hT hb2
  go_wp2
  go_ret
  exact ⟨⟨T, P, HT.out, hP, hs, rfl⟩, HB2.out⟩
set_option maxRecDepth 20000 in
set_option maxHeartbeats 800000 in
theorem implPutT_of {sec ns : Int} {b : Bool} {W N : Nat} (w : World)
    (HF : ∀ w', Below w.heap.size w w' → Calls Tryd.prog 46 #[.int .i64 sec, .int .i64 ns] w' (FmtT b W N w')) :
    Calls Tryd.prog 27 #[.agg #[.int .i64 sec, .int .i64 ns]] w (FmtT b W N w) := by
  have HB0 : Hid (Below w.heap.size w (w.alloc (.cells #[.int .i64 sec, .int .i64 ns] 36))) := Lib.hid ((Below.refl _ w).alloc (Nat.le_refl _) _)
  have H2 := Lib.hid (HF _ HB0.out)
  clear HF
  go_enter Tryd.func27, Tryd.ntmps27
  go_wp2_with fail
  refine H2.out.mono ?_
  rintro e w2 ⟨⟨T, P, hT, hP, hs, rfl⟩, hb2⟩
  have HT := Lib.hid hT
  have HB2 : Hid (Below w.heap.size w w2) := Lib.hid (HB0.out.trans (hb2.mono HB0.out.size))
  clear hT hb2
  go_wp2
  go_ret
  exact ⟨⟨T, P, HT.out, hP, hs, rfl⟩, HB2.out⟩
/-- impl.PutTime: the time, as a text. -/
theorem implPutT (sec ns : Int) (h1 : -100000000000000000 ≤ sec) (h2 : sec ≤ 100000000000000000) (h3 : 0 ≤ ns) (h4 : ns < 1000000000) :
    ∃ b W N, sec = secV b W N ∧ ns = nsV b N ∧ W < 1000000000000000000 ∧ N < 1000000000 ∧ ∀ w, Tab w → Calls Tryd.prog 27 #[.agg #[.int .i64 sec, .int .i64 ns]] w (FmtT b W N w) := by
  have hw : ∀ {b : Bool} {W N : Nat}, (∀ x w', wrap64 (x + -62135596800) = sec → Tab w' → Calls Tryd.prog 63 #[.agg #[.int .u64 ns, .int .i64 x]] w' (FmtT b W N w')) → ∀ w, Tab w → Calls Tryd.prog 27 #[.agg #[.int .i64 sec, .int .i64 ns]] w (FmtT b W N w) := fun H w hT =>
    implPutT_of w fun w1 hb1 => zzPutT w1 h3 h4 (by omega) fun x w2 hx hb2 => H x w2 hx (tab_below (tab_below hT hb1) hb2)
  by_cases hn : ns = 0
  · subst hn
    by_cases hs : 0 ≤ sec
    · exact ⟨false, sec.toNat, 0, by unfold secV; rw [if_neg (by decide)]; omega, by unfold nsV; rw [if_neg (by decide)]; rfl, by omega, by omega, hw fun x w hx hT => fmtT_whole x sec false _ w hx h1 h2 (by rw [if_neg (by decide)]; omega) (fun h => by cases h) hT⟩
    · exact ⟨true, (-sec).toNat, 0, by unfold secV; rw [if_pos rfl, if_pos rfl]; omega, by unfold nsV; rw [if_pos rfl, if_pos rfl], by omega, by omega, hw fun x w hx hT => fmtT_whole x sec true _ w hx h1 h2 (by rw [if_pos rfl]; omega) (fun _ => by omega) hT⟩
  obtain ⟨k, rfl⟩ : ∃ k : Nat, ns = (k : Int) := ⟨ns.toNat, by omega⟩
  by_cases hs : 0 ≤ sec
  · exact ⟨false, sec.toNat, k, by unfold secV; rw [if_neg (by decide)]; omega, by unfold nsV; rw [if_neg (by decide)], by omega, by omega, hw fun x w hx hT => fmtT_part x sec k k _ false w hx h1 h2 (by omega) (by omega) (.inl ⟨rfl, by omega, rfl⟩) hT⟩
  · exact ⟨true, (-sec - 1).toNat, 1000000000 - k, by unfold secV; rw [if_pos rfl, if_neg (by omega)]; omega, by unfold nsV; rw [if_pos rfl, if_neg (by omega)]; omega, by omega, by omega, hw fun x w hx hT => fmtT_part x sec k _ _ true w hx h1 h2 (by omega) (by omega) (.inr ⟨rfl, by omega, by omega⟩) hT⟩
end Go.Proofs.YtlchagphjmfooaaDoor
