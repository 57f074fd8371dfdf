/- The walk of spec.PutTime (written by gen_putt.py). -/
import Derived.Test.YtlchagphjmfooaaDoorTimT
namespace Go.Proofs.YtlchagphjmfooaaDoor
open Go.RowKit Go.PlainAid
set_option linter.unusedVariables false

theorem number_at (i : Int) (n : Nat) (w : World) (hn : n ≤ 9223372036854775807) (hi : i = (n : Int)) :
    Calls Tryd.prog 40 #[.int .i64 i] w fun e w' => e = .returned (.string (numB n)) ∧ Below w.heap.size w w' := by
  subst hi
  exact number_nat n w hn
/-- The sign. -/
def sgB (b : Bool) : List UInt8 := if b = true then [45] else []
def PutT (b : Bool) (W N no : Nat) (w : World) (e : Ending) (w' : World) : Prop := (∃ T P, TimText T b W N P ∧ P.length ≤ 9 + no ∧ T.size ≤ 100 ∧ e = .returned (.string T)) ∧ Below w.heap.size w w'
theorem putT_text {b : Bool} {W N : Nat} {S p : ByteArray} (hS : S.data.toList = sgB b ++ numL W) (hp : PartOk9 p N) (h0 : ¬ p.size = 0) : TimText (S ++ (⟨#[46]⟩ ++ p)) b W N p.data.toList := by
  have hne : p.data.toList ≠ [] := fun e => h0 (by rw [← sz_l, e]; rfl)
  refine ⟨?_, hp.1, hp.2⟩
  rw [if_neg hne, app_list, app_list, hS]
  rfl
theorem putT_bare {b : Bool} {W N : Nat} {S p : ByteArray} (hS : S.data.toList = sgB b ++ numL W) (hp : PartOk9 p N) (h0 : p.size = 0) : TimText S b W N [] := by
  have he : p.data.toList = [] := List.eq_nil_of_length_eq_zero (by rw [sz_l]; exact h0)
  refine ⟨?_, fun c hc => by simp at hc, ?_⟩
  · rw [if_pos rfl, List.append_nil, hS]; rfl
  · have := hp.2
    rw [he] at this
    exact this

set_option maxRecDepth 20000 in
set_option maxHeartbeats 3200000 in
theorem putT_pos (sec ns : Int) (W N no : Nat) (w : World) (hno : no ≤ 40) (hW : W ≤ 1000000000000000000) (hN : N < 1000000000) (hs : 0 ≤ sec) (hsW : sec = (W : Int)) (hnN : ns = (N : Int)) :
    Calls Tryd.prog 20 #[.agg #[.int .i64 sec, .int .i64 ns], .int .i64 no] w (PutT false W N no w) := by
  have HN9 := Lib.hid (nineB_ok N hN)
  have u9 : IntKind.i64.wrap (1000000000 + (N : Int)) = 1000000000 + (N : Int) := IntWalk.i64_in _ (by omega)
  have hten : (numB (1000000000 + N)).size = 10 := by rw [numB_size]; exact ten_digits N hN
  have hWs : (numB W).size ≤ 19 := by rw [numB_size]; exact numL_le19 (by omega)
  have hz0 : (⟨#[]⟩ : ByteArray).size = 0 := rfl
  have hz45 : (⟨#[45]⟩ : ByteArray).size = 1 := rfl
  have hcat : 1 + (numB W).size ≤ 9223372036854775807 := by omega
  have hcat2 : (numB W).size ≤ 9223372036854775807 := by omega
  have HBB : Hid (Below w.heap.size w ((w.alloc (.cells #[.int .i64 sec, .int .i64 ns] 33)).drew)) := Lib.hid (((Below.refl _ w).alloc (Nat.le_refl _) _).drew)
  subst hsW hnN
  have k1 : ¬ (W : Int) < 0 := by omega
  go_enter Tryd.func20, Tryd.ntmps20
  go_wp2
  go_region_held3 (fun w' => w'.cell? ⟨w.heap.size, 0, none⟩ = some (.int .i64 (W : Int)) ∧ w'.cell? ⟨w.heap.size, 1, none⟩ = some (.int .i64 (N : Int))) (refine ⟨?_, ?_⟩ <;> (simp [go_sem]; done)) (fail)
  go_wp2_with fail
  refine (number_nat W _ (by omega)).mono ?_
  rintro e w1 ⟨rfl, hb1⟩
  have HB1 : Hid (Below w.heap.size w w1) := Lib.hid (HBB.out.trans (hb1.mono HBB.out.size))
  clear hb1
  go_wp2_with fail
  refine (number_at _ (1000000000 + N) _ (by omega) (by first | omega | (have := HN0.out; omega))).mono ?_
  rintro e w2 ⟨rfl, hb2⟩
  have HB2 : Hid (Below w.heap.size w w2) := Lib.hid (HB1.out.trans (hb2.mono HB1.out.size))
  clear hb2
  go_wp2
  rw [show (numB (1000000000 + N)).extract 1 10 = nineB N by unfold nineB; rw [hten]]
  obtain ⟨S, hS⟩ : ∃ S, numB W = S := ⟨_, rfl⟩
  have HS : Hid (S.data.toList = sgB false ++ numL W) := Lib.hid (by rw [← hS]; rw [numB_list]; rfl)
  have hSs : S.size ≤ 20 := by
    have e := HS.out
    have l := numL_le19 (n := W) (by omega)
    have e2 := congrArg List.length e
    rw [sz_l, List.length_append] at e2
    have e3 : (sgB false).length ≤ 1 := by decide
    omega
  (try rw [hS])
  clear hS
  go_loop [9] (fun v => ∃ p : ByteArray, v = .string p ∧ p.size ≤ 9 ∧ Hid (PartOk9 p N)) (fun v => (match v with | .string p => p.size | _ => 0))
  case atStart => exact ⟨nineB N, rfl, Nat.le_of_eq HN9.out.1, Lib.hid ⟨HN9.out.2.1, HN9.out.2.2⟩⟩
  case round =>
    obtain ⟨p, rfl, hp9, hp⟩ := hrel
    have hbp := get_bt p
    by_cases hps : 0 < p.size
    · have p1 : IntKind.i64.wrap ((p.size : Int) - 1) = (p.size : Int) - 1 := IntWalk.i64_in _ (by omega)
      have p2 : ((p.size : Int) - 1).toNat = p.size - 1 := by omega
      have p3 : (0 : Int) ≤ (p.size : Int) - 1 := by omega
      have p4 : (p.size : Int) - 1 < (p.size : Int) := by omega
      have p5 : p.size - 1 < p.size := by omega
      have p6 : (p.size : Int) - 1 ≤ (p.size : Int) := by omega
      by_cases h48 : bt p (p.size - 1) = 48
      · have h48' : (bt p (p.size - 1) == 48) = true := by rw [h48]; rfl
        have HP := Lib.hid (part_trim hp.out hps h48)
        have hsz : (p.extract 0 (p.size - 1)).size = p.size - 1 := by rw [ext_size _ _ _ (by omega)]; omega
        clear h48
        go_wp2
        go_round
        case rel => exact ⟨_, rfl, by omega, HP⟩
        case measure => simp only [hsz]; omega
      · have h48' : (bt p (p.size - 1) == 48) = false := by rw [beq_eq_false_iff_ne]; exact h48
        clear h48
        go_wp2
        go_loop [9, 49] (fun v i => ∃ (q : ByteArray) (k : Nat), v = .string q ∧ i = .int .i64 k ∧ k ≤ no ∧ q.size ≤ 9 + k ∧ Hid (PartOk9 q N)) (fun _ i => no - (intOf i).toNat)
        case atStart => exact ⟨p, 0, rfl, rfl, by omega, by omega, hp⟩
        case round =>
          obtain ⟨q, k, rfl, rfl, hk, hq9, hq⟩ := hrel
          by_cases hkn : k < no
          · have hz1 : (⟨#[48]⟩ : ByteArray).size = 1 := rfl
            have hqs : q.size + 1 ≤ 9223372036854775807 := by omega
            have HQ := Lib.hid (part_more hq.out)
            have hqz : (q ++ ⟨#[48]⟩).size = q.size + 1 := by rw [ByteArray.size_append]; rfl
            go_wp2
            go_round
            case rel => exact ⟨q ++ ⟨#[48]⟩, k + 1, rfl, by go_num, by omega, by omega, HQ⟩
            case measure => simp [intOf]; omega
          · obtain rfl : k = no := by omega
            have hz1 : (⟨#[46]⟩ : ByteArray).size = 1 := rfl
            have hqs : 1 + q.size ≤ 9223372036854775807 := by omega
            have hqs2 : S.size + (1 + q.size) ≤ 9223372036854775807 := by omega
            by_cases hq0 : q.size = 0
            · obtain ⟨e1, e2⟩ := empty_yes hq0
              have HT := Lib.hid (putT_bare HS.out hq.out hq0)
              clear hq0
              go_wp2
              go_ret
              exact ⟨⟨_, _, HT.out, by simp, by omega, rfl⟩, HB2.out⟩
            · obtain ⟨e1, e2⟩ := empty_no hq0
              have HT := Lib.hid (putT_text HS.out hq.out hq0)
              have hsz : (S ++ (⟨#[46]⟩ ++ q)).size ≤ 100 := by rw [ByteArray.size_append, ByteArray.size_append]; omega
              have hql : q.data.toList.length ≤ 9 + k := by rw [sz_l]; exact hq9
              clear hq0
              go_wp2
              go_ret
              exact ⟨⟨_, _, HT.out, hql, hsz, rfl⟩, HB2.out⟩
    · have hps2 : ¬ (0 : Int) < (p.size : Int) := by omega
      go_wp2
      go_loop [9, 49] (fun v i => ∃ (q : ByteArray) (k : Nat), v = .string q ∧ i = .int .i64 k ∧ k ≤ no ∧ q.size ≤ 9 + k ∧ Hid (PartOk9 q N)) (fun _ i => no - (intOf i).toNat)
      case atStart => exact ⟨p, 0, rfl, rfl, by omega, by omega, hp⟩
      case round =>
        obtain ⟨q, k, rfl, rfl, hk, hq9, hq⟩ := hrel
        by_cases hkn : k < no
        · have hz1 : (⟨#[48]⟩ : ByteArray).size = 1 := rfl
          have hqs : q.size + 1 ≤ 9223372036854775807 := by omega
          have HQ := Lib.hid (part_more hq.out)
          have hqz : (q ++ ⟨#[48]⟩).size = q.size + 1 := by rw [ByteArray.size_append]; rfl
          go_wp2
          go_round
          case rel => exact ⟨q ++ ⟨#[48]⟩, k + 1, rfl, by go_num, by omega, by omega, HQ⟩
          case measure => simp [intOf]; omega
        · obtain rfl : k = no := by omega
          have hz1 : (⟨#[46]⟩ : ByteArray).size = 1 := rfl
          have hqs : 1 + q.size ≤ 9223372036854775807 := by omega
          have hqs2 : S.size + (1 + q.size) ≤ 9223372036854775807 := by omega
          by_cases hq0 : q.size = 0
          · obtain ⟨e1, e2⟩ := empty_yes hq0
            have HT := Lib.hid (putT_bare HS.out hq.out hq0)
            clear hq0
            go_wp2
            go_ret
            exact ⟨⟨_, _, HT.out, by simp, by omega, rfl⟩, HB2.out⟩
          · obtain ⟨e1, e2⟩ := empty_no hq0
            have HT := Lib.hid (putT_text HS.out hq.out hq0)
            have hsz : (S ++ (⟨#[46]⟩ ++ q)).size ≤ 100 := by rw [ByteArray.size_append, ByteArray.size_append]; omega
            have hql : q.data.toList.length ≤ 9 + k := by rw [sz_l]; exact hq9
            clear hq0
            go_wp2
            go_ret
            exact ⟨⟨_, _, HT.out, hql, hsz, rfl⟩, HB2.out⟩

set_option maxRecDepth 20000 in
set_option maxHeartbeats 3200000 in
theorem putT_neg0 (sec ns : Int) (W N no : Nat) (w : World) (hno : no ≤ 40) (hW : W ≤ 1000000000000000000) (hN : N < 1000000000) (hs : sec < 0) (hsW : IntKind.i64.wrap (-sec) = (W : Int)) (hn0 : ns = 0) (hN0 : N = 0) :
    Calls Tryd.prog 20 #[.agg #[.int .i64 sec, .int .i64 ns], .int .i64 no] w (PutT true W N no w) := by
  have HN9 := Lib.hid (nineB_ok N hN)
  have u9 : IntKind.i64.wrap (1000000000 + (N : Int)) = 1000000000 + (N : Int) := IntWalk.i64_in _ (by omega)
  have hten : (numB (1000000000 + N)).size = 10 := by rw [numB_size]; exact ten_digits N hN
  have hWs : (numB W).size ≤ 19 := by rw [numB_size]; exact numL_le19 (by omega)
  have hz0 : (⟨#[]⟩ : ByteArray).size = 0 := rfl
  have hz45 : (⟨#[45]⟩ : ByteArray).size = 1 := rfl
  have hcat : 1 + (numB W).size ≤ 9223372036854775807 := by omega
  have hcat2 : (numB W).size ≤ 9223372036854775807 := by omega
  have HBB : Hid (Below w.heap.size w ((w.alloc (.cells #[.int .i64 sec, .int .i64 ns] 33)).drew)) := Lib.hid (((Below.refl _ w).alloc (Nat.le_refl _) _).drew)
  subst hn0
  have HN0 := Lib.hid hN0
  clear hN0
  go_enter Tryd.func20, Tryd.ntmps20
  go_wp2
  go_region_held3 (fun w' => w'.cell? ⟨w.heap.size, 0, none⟩ = some (.int .i64 sec) ∧ w'.cell? ⟨w.heap.size, 1, none⟩ = some (.int .i64 0)) (refine ⟨?_, ?_⟩ <;> (simp [go_sem]; done)) (fail)
  go_wp2_with fail
  refine (number_nat W _ (by omega)).mono ?_
  rintro e w1 ⟨rfl, hb1⟩
  have HB1 : Hid (Below w.heap.size w w1) := Lib.hid (HBB.out.trans (hb1.mono HBB.out.size))
  clear hb1
  go_wp2_with fail
  refine (number_at _ (1000000000 + N) _ (by omega) (by first | omega | (have := HN0.out; omega))).mono ?_
  rintro e w2 ⟨rfl, hb2⟩
  have HB2 : Hid (Below w.heap.size w w2) := Lib.hid (HB1.out.trans (hb2.mono HB1.out.size))
  clear hb2
  go_wp2
  rw [show (numB (1000000000 + N)).extract 1 10 = nineB N by unfold nineB; rw [hten]]
  obtain ⟨S, hS⟩ : ∃ S, (⟨#[45]⟩ : ByteArray) ++ numB W = S := ⟨_, rfl⟩
  have HS : Hid (S.data.toList = sgB true ++ numL W) := Lib.hid (by rw [← hS]; rw [app_list, numB_list]; rfl)
  have hSs : S.size ≤ 20 := by
    have e := HS.out
    have l := numL_le19 (n := W) (by omega)
    have e2 := congrArg List.length e
    rw [sz_l, List.length_append] at e2
    have e3 : (sgB true).length ≤ 1 := by decide
    omega
  (try rw [hS])
  clear hS
  go_loop [9] (fun v => ∃ p : ByteArray, v = .string p ∧ p.size ≤ 9 ∧ Hid (PartOk9 p N)) (fun v => (match v with | .string p => p.size | _ => 0))
  case atStart => exact ⟨nineB N, rfl, Nat.le_of_eq HN9.out.1, Lib.hid ⟨HN9.out.2.1, HN9.out.2.2⟩⟩
  case round =>
    obtain ⟨p, rfl, hp9, hp⟩ := hrel
    have hbp := get_bt p
    by_cases hps : 0 < p.size
    · have p1 : IntKind.i64.wrap ((p.size : Int) - 1) = (p.size : Int) - 1 := IntWalk.i64_in _ (by omega)
      have p2 : ((p.size : Int) - 1).toNat = p.size - 1 := by omega
      have p3 : (0 : Int) ≤ (p.size : Int) - 1 := by omega
      have p4 : (p.size : Int) - 1 < (p.size : Int) := by omega
      have p5 : p.size - 1 < p.size := by omega
      have p6 : (p.size : Int) - 1 ≤ (p.size : Int) := by omega
      by_cases h48 : bt p (p.size - 1) = 48
      · have h48' : (bt p (p.size - 1) == 48) = true := by rw [h48]; rfl
        have HP := Lib.hid (part_trim hp.out hps h48)
        have hsz : (p.extract 0 (p.size - 1)).size = p.size - 1 := by rw [ext_size _ _ _ (by omega)]; omega
        clear h48
        go_wp2
        go_round
        case rel => exact ⟨_, rfl, by omega, HP⟩
        case measure => simp only [hsz]; omega
      · have h48' : (bt p (p.size - 1) == 48) = false := by rw [beq_eq_false_iff_ne]; exact h48
        clear h48
        go_wp2
        go_loop [9, 49] (fun v i => ∃ (q : ByteArray) (k : Nat), v = .string q ∧ i = .int .i64 k ∧ k ≤ no ∧ q.size ≤ 9 + k ∧ Hid (PartOk9 q N)) (fun _ i => no - (intOf i).toNat)
        case atStart => exact ⟨p, 0, rfl, rfl, by omega, by omega, hp⟩
        case round =>
          obtain ⟨q, k, rfl, rfl, hk, hq9, hq⟩ := hrel
          by_cases hkn : k < no
          · have hz1 : (⟨#[48]⟩ : ByteArray).size = 1 := rfl
            have hqs : q.size + 1 ≤ 9223372036854775807 := by omega
            have HQ := Lib.hid (part_more hq.out)
            have hqz : (q ++ ⟨#[48]⟩).size = q.size + 1 := by rw [ByteArray.size_append]; rfl
            go_wp2
            go_round
            case rel => exact ⟨q ++ ⟨#[48]⟩, k + 1, rfl, by go_num, by omega, by omega, HQ⟩
            case measure => simp [intOf]; omega
          · obtain rfl : k = no := by omega
            have hz1 : (⟨#[46]⟩ : ByteArray).size = 1 := rfl
            have hqs : 1 + q.size ≤ 9223372036854775807 := by omega
            have hqs2 : S.size + (1 + q.size) ≤ 9223372036854775807 := by omega
            by_cases hq0 : q.size = 0
            · obtain ⟨e1, e2⟩ := empty_yes hq0
              have HT := Lib.hid (putT_bare HS.out hq.out hq0)
              clear hq0
              go_wp2
              go_ret
              exact ⟨⟨_, _, HT.out, by simp, by omega, rfl⟩, HB2.out⟩
            · obtain ⟨e1, e2⟩ := empty_no hq0
              have HT := Lib.hid (putT_text HS.out hq.out hq0)
              have hsz : (S ++ (⟨#[46]⟩ ++ q)).size ≤ 100 := by rw [ByteArray.size_append, ByteArray.size_append]; omega
              have hql : q.data.toList.length ≤ 9 + k := by rw [sz_l]; exact hq9
              clear hq0
              go_wp2
              go_ret
              exact ⟨⟨_, _, HT.out, hql, hsz, rfl⟩, HB2.out⟩
    · have hps2 : ¬ (0 : Int) < (p.size : Int) := by omega
      go_wp2
      go_loop [9, 49] (fun v i => ∃ (q : ByteArray) (k : Nat), v = .string q ∧ i = .int .i64 k ∧ k ≤ no ∧ q.size ≤ 9 + k ∧ Hid (PartOk9 q N)) (fun _ i => no - (intOf i).toNat)
      case atStart => exact ⟨p, 0, rfl, rfl, by omega, by omega, hp⟩
      case round =>
        obtain ⟨q, k, rfl, rfl, hk, hq9, hq⟩ := hrel
        by_cases hkn : k < no
        · have hz1 : (⟨#[48]⟩ : ByteArray).size = 1 := rfl
          have hqs : q.size + 1 ≤ 9223372036854775807 := by omega
          have HQ := Lib.hid (part_more hq.out)
          have hqz : (q ++ ⟨#[48]⟩).size = q.size + 1 := by rw [ByteArray.size_append]; rfl
          go_wp2
          go_round
          case rel => exact ⟨q ++ ⟨#[48]⟩, k + 1, rfl, by go_num, by omega, by omega, HQ⟩
          case measure => simp [intOf]; omega
        · obtain rfl : k = no := by omega
          have hz1 : (⟨#[46]⟩ : ByteArray).size = 1 := rfl
          have hqs : 1 + q.size ≤ 9223372036854775807 := by omega
          have hqs2 : S.size + (1 + q.size) ≤ 9223372036854775807 := by omega
          by_cases hq0 : q.size = 0
          · obtain ⟨e1, e2⟩ := empty_yes hq0
            have HT := Lib.hid (putT_bare HS.out hq.out hq0)
            clear hq0
            go_wp2
            go_ret
            exact ⟨⟨_, _, HT.out, by simp, by omega, rfl⟩, HB2.out⟩
          · obtain ⟨e1, e2⟩ := empty_no hq0
            have HT := Lib.hid (putT_text HS.out hq.out hq0)
            have hsz : (S ++ (⟨#[46]⟩ ++ q)).size ≤ 100 := by rw [ByteArray.size_append, ByteArray.size_append]; omega
            have hql : q.data.toList.length ≤ 9 + k := by rw [sz_l]; exact hq9
            clear hq0
            go_wp2
            go_ret
            exact ⟨⟨_, _, HT.out, hql, hsz, rfl⟩, HB2.out⟩

set_option maxRecDepth 20000 in
set_option maxHeartbeats 3200000 in
theorem putT_neg (sec ns : Int) (W N no : Nat) (w : World) (hno : no ≤ 40) (hW : W ≤ 1000000000000000000) (hN : N < 1000000000) (hs : sec < 0) (s1 : Int) (hs1 : IntKind.i64.wrap (-sec) = s1) (hsW : IntKind.i64.wrap (s1 - 1) = (W : Int)) (hn0 : 0 < ns) (hnN : IntKind.i64.wrap (1000000000 - ns) = (N : Int)) :
    Calls Tryd.prog 20 #[.agg #[.int .i64 sec, .int .i64 ns], .int .i64 no] w (PutT true W N no w) := by
  have HN9 := Lib.hid (nineB_ok N hN)
  have u9 : IntKind.i64.wrap (1000000000 + (N : Int)) = 1000000000 + (N : Int) := IntWalk.i64_in _ (by omega)
  have hten : (numB (1000000000 + N)).size = 10 := by rw [numB_size]; exact ten_digits N hN
  have hWs : (numB W).size ≤ 19 := by rw [numB_size]; exact numL_le19 (by omega)
  have hz0 : (⟨#[]⟩ : ByteArray).size = 0 := rfl
  have hz45 : (⟨#[45]⟩ : ByteArray).size = 1 := rfl
  have hcat : 1 + (numB W).size ≤ 9223372036854775807 := by omega
  have hcat2 : (numB W).size ≤ 9223372036854775807 := by omega
  have HBB : Hid (Below w.heap.size w ((w.alloc (.cells #[.int .i64 sec, .int .i64 ns] 33)).drew)) := Lib.hid (((Below.refl _ w).alloc (Nat.le_refl _) _).drew)

  go_enter Tryd.func20, Tryd.ntmps20
  go_wp2
  go_region_held3 (fun w' => w'.cell? ⟨w.heap.size, 0, none⟩ = some (.int .i64 sec) ∧ w'.cell? ⟨w.heap.size, 1, none⟩ = some (.int .i64 ns)) (refine ⟨?_, ?_⟩ <;> (simp [go_sem]; done)) (fail)
  go_wp2_with fail
  refine (number_nat W _ (by omega)).mono ?_
  rintro e w1 ⟨rfl, hb1⟩
  have HB1 : Hid (Below w.heap.size w w1) := Lib.hid (HBB.out.trans (hb1.mono HBB.out.size))
  clear hb1
  go_wp2_with fail
  refine (number_at _ (1000000000 + N) _ (by omega) (by first | omega | (have := HN0.out; omega))).mono ?_
  rintro e w2 ⟨rfl, hb2⟩
  have HB2 : Hid (Below w.heap.size w w2) := Lib.hid (HB1.out.trans (hb2.mono HB1.out.size))
  clear hb2
  go_wp2
  rw [show (numB (1000000000 + N)).extract 1 10 = nineB N by unfold nineB; rw [hten]]
  obtain ⟨S, hS⟩ : ∃ S, (⟨#[45]⟩ : ByteArray) ++ numB W = S := ⟨_, rfl⟩
  have HS : Hid (S.data.toList = sgB true ++ numL W) := Lib.hid (by rw [← hS]; rw [app_list, numB_list]; rfl)
  have hSs : S.size ≤ 20 := by
    have e := HS.out
    have l := numL_le19 (n := W) (by omega)
    have e2 := congrArg List.length e
    rw [sz_l, List.length_append] at e2
    have e3 : (sgB true).length ≤ 1 := by decide
    omega
  (try rw [hS])
  clear hS
  go_loop [9] (fun v => ∃ p : ByteArray, v = .string p ∧ p.size ≤ 9 ∧ Hid (PartOk9 p N)) (fun v => (match v with | .string p => p.size | _ => 0))
  case atStart => exact ⟨nineB N, rfl, Nat.le_of_eq HN9.out.1, Lib.hid ⟨HN9.out.2.1, HN9.out.2.2⟩⟩
  case round =>
    obtain ⟨p, rfl, hp9, hp⟩ := hrel
    have hbp := get_bt p
    by_cases hps : 0 < p.size
    · have p1 : IntKind.i64.wrap ((p.size : Int) - 1) = (p.size : Int) - 1 := IntWalk.i64_in _ (by omega)
      have p2 : ((p.size : Int) - 1).toNat = p.size - 1 := by omega
      have p3 : (0 : Int) ≤ (p.size : Int) - 1 := by omega
      have p4 : (p.size : Int) - 1 < (p.size : Int) := by omega
      have p5 : p.size - 1 < p.size := by omega
      have p6 : (p.size : Int) - 1 ≤ (p.size : Int) := by omega
      by_cases h48 : bt p (p.size - 1) = 48
      · have h48' : (bt p (p.size - 1) == 48) = true := by rw [h48]; rfl
        have HP := Lib.hid (part_trim hp.out hps h48)
        have hsz : (p.extract 0 (p.size - 1)).size = p.size - 1 := by rw [ext_size _ _ _ (by omega)]; omega
        clear h48
        go_wp2
        go_round
        case rel => exact ⟨_, rfl, by omega, HP⟩
        case measure => simp only [hsz]; omega
      · have h48' : (bt p (p.size - 1) == 48) = false := by rw [beq_eq_false_iff_ne]; exact h48
        clear h48
        go_wp2
        go_loop [9, 49] (fun v i => ∃ (q : ByteArray) (k : Nat), v = .string q ∧ i = .int .i64 k ∧ k ≤ no ∧ q.size ≤ 9 + k ∧ Hid (PartOk9 q N)) (fun _ i => no - (intOf i).toNat)
        case atStart => exact ⟨p, 0, rfl, rfl, by omega, by omega, hp⟩
        case round =>
          obtain ⟨q, k, rfl, rfl, hk, hq9, hq⟩ := hrel
          by_cases hkn : k < no
          · have hz1 : (⟨#[48]⟩ : ByteArray).size = 1 := rfl
            have hqs : q.size + 1 ≤ 9223372036854775807 := by omega
            have HQ := Lib.hid (part_more hq.out)
            have hqz : (q ++ ⟨#[48]⟩).size = q.size + 1 := by rw [ByteArray.size_append]; rfl
            go_wp2
            go_round
            case rel => exact ⟨q ++ ⟨#[48]⟩, k + 1, rfl, by go_num, by omega, by omega, HQ⟩
            case measure => simp [intOf]; omega
          · obtain rfl : k = no := by omega
            have hz1 : (⟨#[46]⟩ : ByteArray).size = 1 := rfl
            have hqs : 1 + q.size ≤ 9223372036854775807 := by omega
            have hqs2 : S.size + (1 + q.size) ≤ 9223372036854775807 := by omega
            by_cases hq0 : q.size = 0
            · obtain ⟨e1, e2⟩ := empty_yes hq0
              have HT := Lib.hid (putT_bare HS.out hq.out hq0)
              clear hq0
              go_wp2
              go_ret
              exact ⟨⟨_, _, HT.out, by simp, by omega, rfl⟩, HB2.out⟩
            · obtain ⟨e1, e2⟩ := empty_no hq0
              have HT := Lib.hid (putT_text HS.out hq.out hq0)
              have hsz : (S ++ (⟨#[46]⟩ ++ q)).size ≤ 100 := by rw [ByteArray.size_append, ByteArray.size_append]; omega
              have hql : q.data.toList.length ≤ 9 + k := by rw [sz_l]; exact hq9
              clear hq0
              go_wp2
              go_ret
              exact ⟨⟨_, _, HT.out, hql, hsz, rfl⟩, HB2.out⟩
    · have hps2 : ¬ (0 : Int) < (p.size : Int) := by omega
      go_wp2
      go_loop [9, 49] (fun v i => ∃ (q : ByteArray) (k : Nat), v = .string q ∧ i = .int .i64 k ∧ k ≤ no ∧ q.size ≤ 9 + k ∧ Hid (PartOk9 q N)) (fun _ i => no - (intOf i).toNat)
      case atStart => exact ⟨p, 0, rfl, rfl, by omega, by omega, hp⟩
      case round =>
        obtain ⟨q, k, rfl, rfl, hk, hq9, hq⟩ := hrel
        by_cases hkn : k < no
        · have hz1 : (⟨#[48]⟩ : ByteArray).size = 1 := rfl
          have hqs : q.size + 1 ≤ 9223372036854775807 := by omega
          have HQ := Lib.hid (part_more hq.out)
          have hqz : (q ++ ⟨#[48]⟩).size = q.size + 1 := by rw [ByteArray.size_append]; rfl
          go_wp2
          go_round
          case rel => exact ⟨q ++ ⟨#[48]⟩, k + 1, rfl, by go_num, by omega, by omega, HQ⟩
          case measure => simp [intOf]; omega
        · obtain rfl : k = no := by omega
          have hz1 : (⟨#[46]⟩ : ByteArray).size = 1 := rfl
          have hqs : 1 + q.size ≤ 9223372036854775807 := by omega
          have hqs2 : S.size + (1 + q.size) ≤ 9223372036854775807 := by omega
          by_cases hq0 : q.size = 0
          · obtain ⟨e1, e2⟩ := empty_yes hq0
            have HT := Lib.hid (putT_bare HS.out hq.out hq0)
            clear hq0
            go_wp2
            go_ret
            exact ⟨⟨_, _, HT.out, by simp, by omega, rfl⟩, HB2.out⟩
          · obtain ⟨e1, e2⟩ := empty_no hq0
            have HT := Lib.hid (putT_text HS.out hq.out hq0)
            have hsz : (S ++ (⟨#[46]⟩ ++ q)).size ≤ 100 := by rw [ByteArray.size_append, ByteArray.size_append]; omega
            have hql : q.data.toList.length ≤ 9 + k := by rw [sz_l]; exact hq9
            clear hq0
            go_wp2
            go_ret
            exact ⟨⟨_, _, HT.out, hql, hsz, rfl⟩, HB2.out⟩

theorem specPutT (sec ns : Int) (no : Nat) (h1 : -100000000000000000 ≤ sec) (h2 : sec ≤ 100000000000000000) (h3 : 0 ≤ ns) (h4 : ns < 1000000000) (hno : no ≤ 40) :
    ∃ b W N, sec = secV b W N ∧ ns = nsV b N ∧ W < 1000000000000000000 ∧ N < 1000000000 ∧ ∀ w, Calls Tryd.prog 20 #[.agg #[.int .i64 sec, .int .i64 ns], .int .i64 no] w (PutT b W N no w) := by
  by_cases hs : 0 ≤ sec
  · refine ⟨false, sec.toNat, ns.toNat, ?_, ?_, by omega, by omega, fun w => putT_pos sec ns _ _ no w hno (by omega) (by omega) hs (by omega) (by omega)⟩
    · unfold secV; rw [if_neg (by decide)]; omega
    · unfold nsV; rw [if_neg (by decide)]; omega
  by_cases hn : ns = 0
  · refine ⟨true, (-sec).toNat, 0, ?_, ?_, by omega, by omega, fun w => putT_neg0 sec ns _ _ no w hno (by omega) (by omega) (by omega) (by rw [IntWalk.i64_in _ (by omega)]; omega) hn rfl⟩
    · unfold secV; rw [if_pos rfl, if_pos rfl]; omega
    · unfold nsV; rw [if_pos rfl, if_pos rfl]; exact hn
  · refine ⟨true, (-sec - 1).toNat, (1000000000 - ns).toNat, ?_, ?_, by omega, by omega, fun w => putT_neg sec ns _ _ no w hno (by omega) (by omega) (by omega) (-sec) (IntWalk.i64_in _ (by omega)) (by rw [IntWalk.i64_in _ (by omega)]; omega) (by omega) (by rw [IntWalk.i64_in _ (by omega)]; omega)⟩
    · unfold secV; rw [if_pos rfl, if_neg (by omega)]; omega
    · unfold nsV; rw [if_pos rfl, if_neg (by omega)]; omega
end Go.Proofs.YtlchagphjmfooaaDoor
