/- The text of many written records: what Records reads of it; the last one of each key. (Printed by wip/gen_ra1.py.) -/
import Derived.Test.YtlchagphjmfooaaDoorIsRead
import Derived.Test.YtlchagphjmfooaaDoorSpR
import Derived.Test.YtlchagphjmfooaaDoorTab
namespace Go.Proofs.YtlchagphjmfooaaDoor
open Go.RowKit Go.PlainAid Go.Maps
set_option linter.unusedVariables false

def KeyOk (k : ByteArray) : Prop := k.size ≠ 0 ∧ ¬ fc 61 k < k.size
theorem sz_list (s : ByteArray) : s.data.toList.length = s.size := (Lib.size_eq s).symm
theorem fcc_none (c : UInt8) (s : ByteArray) (h : ¬ fc c s < s.size) : ∀ x ∈ s.data.toList, x ≠ c := by
  intro x hx e
  have h1 : s.data.toList.findIdx (· == c) < s.data.toList.length := List.findIdx_lt_length_of_exists ⟨x, hx, by simp [e]⟩
  apply h
  rw [sz_list] at h1
  exact h1
theorem Wrote.isRec {s : ByteArray} {N : Nat} {k v : ByteArray} (H : Wrote s N k v) (hk : KeyOk k) (hN : N ≤ 9223372036854775807) (b : ByteArray) : IsRec (s ++ b) (numB N) N (k ++ ⟨#[61]⟩ ++ v) k v b := by
  have hR := recR_size k v
  have hl := H.len
  have hp := numL_pos N
  have hsz : (s ++ b).size = N + b.size := by rw [ByteArray.size_append, H.size]
  have hfc : Go.Proofs.YtlchagphjmfooaaDoor.fc 32 (s ++ b) = (numL N).length := H.fc
  have hnb : (numB N).size = (numL N).length := numB_size N
  have hlist := H.list (b := b)
  have hk0 : 0 < k.size := by have := hk.1; omega
  have hmid : k ++ ⟨#[61]⟩ ++ v = (s ++ b).extract ((numB N).size + 1) (N - 1) := by
    apply ba_ext
    rw [Lib.extract_data, hlist, hnb, app_list, app_list]
    have e1 : (numL N ++ 32 :: (k.data.toList ++ 61 :: (v.data.toList ++ [10]) ++ b.data.toList)).drop ((numL N).length + 1) = k.data.toList ++ 61 :: (v.data.toList ++ [10]) ++ b.data.toList := by
      rw [← List.drop_drop]; simp
    rw [e1]
    have e2 : N - 1 - ((numL N).length + 1) = (k.data.toList ++ [61] ++ v.data.toList).length := by
      simp only [List.length_append, sz_list, List.length_singleton]
      omega
    rw [e2]
    have e3 : k.data.toList ++ 61 :: (v.data.toList ++ [10]) ++ b.data.toList = (k.data.toList ++ [61] ++ v.data.toList) ++ ([10] ++ b.data.toList) := by simp
    rw [e3, List.take_left' rfl]
  have hfm : Go.Proofs.YtlchagphjmfooaaDoor.fc 61 (k ++ ⟨#[61]⟩ ++ v) = k.size := by
    unfold Go.Proofs.YtlchagphjmfooaaDoor.fc
    rw [app_list, app_list, List.append_assoc]
    have := findIdx_pre k.data.toList v.data.toList 61 (fcc_none 61 k hk.2)
    rw [sz_list] at this
    exact this
  have hms : (k ++ ⟨#[61]⟩ ++ v).size = k.size + 1 + v.size := by
    rw [ByteArray.size_append, ByteArray.size_append]; rfl
  refine ⟨by omega, H.head.symm, ?_, ⟨by omega, ?_, ?_, ?_⟩, ?_, by omega, by omega, ?_, hmid, by omega, by omega, ?_, ?_, H.rest.symm⟩
  · obtain ⟨c, r, e, a1, a2⟩ := numL_head N (by omega)
    obtain ⟨c', e1, e2⟩ := bt_of (numB N) 0 (by omega)
    rw [numB_list, e] at e1
    obtain rfl : c = c' := by simpa using e1
    unfold headBad
    omega
  · rw [hnb]; exact numL_le19 hN
  · rw [numB_list]; exact numL_dig N
  · rw [numB_list, numL_vl]; exact hN
  · rw [numB_list, numL_vl]
  · obtain ⟨c, e1, e2⟩ := bt_of (s ++ b) (N - 1) (by omega)
    rw [hlist] at e1
    have e3 : numL N ++ 32 :: (k.data.toList ++ 61 :: (v.data.toList ++ [10]) ++ b.data.toList) = (numL N ++ [32] ++ k.data.toList ++ [61] ++ v.data.toList) ++ (10 :: b.data.toList) := by simp
    have e4 : (numL N ++ [32] ++ k.data.toList ++ [61] ++ v.data.toList).length = N - 1 := by
      simp only [List.length_append, sz_list, List.length_singleton]
      omega
    rw [e3, List.getElem?_append_right (by omega), e4, Nat.sub_self] at e1
    obtain rfl : (10 : UInt8) = c := by simpa using e1
    exact e2
  · rw [hfm]
    apply ba_ext
    rw [Lib.extract_data, app_list, app_list, List.drop_zero, List.append_assoc, Nat.sub_zero]
    rw [← sz_list k, List.take_left' rfl]
  · rw [hfm, hms]
    apply ba_ext
    rw [Lib.extract_data, app_list, app_list]
    have e5 : k.size + 1 = (k.data.toList ++ [61]).length := by simp
    have e6 : (⟨#[61]⟩ : ByteArray).data.toList = [61] := rfl
    rw [e6, e5, List.drop_left' rfl, ← e5]
    rw [show k.size + 1 + v.size - (k.size + 1) = v.data.toList.length by rw [sz_list]; omega, List.take_length]
theorem Wrote.readV {s : ByteArray} {N : Nat} {k v : ByteArray} (H : Wrote s N k v) (hk : KeyOk k) (hN : N ≤ 9223372036854775807) (b : ByteArray) : Go.Proofs.YtlchagphjmfooaaDoor.readV (s ++ b) = ⟨k, v, b, 1⟩ := readV_of (H.isRec hk hN b)
theorem Wrote.isRec0 {s : ByteArray} {N : Nat} {k v : ByteArray} (H : Wrote s N k v) (hk : ¬ Go.Proofs.YtlchagphjmfooaaDoor.fc 61 k < k.size) (hN : N ≤ 9223372036854775807) (b : ByteArray) :
    Go.Proofs.YtlchagphjmfooaaDoor.fc 32 (s ++ b) < (s ++ b).size ∧ numB N = (s ++ b).extract 0 (Go.Proofs.YtlchagphjmfooaaDoor.fc 32 (s ++ b)) ∧ ¬ headBad (numB N) ∧ DecOk (numB N) ∧ N = vl 0 (numB N).data.toList ∧ N ≤ (s ++ b).size ∧ (numB N).size + 1 < N ∧ bt (s ++ b) (N - 1) = 10 ∧
    k ++ ⟨#[61]⟩ ++ v = (s ++ b).extract ((numB N).size + 1) (N - 1) ∧ Go.Proofs.YtlchagphjmfooaaDoor.fc 61 (k ++ ⟨#[61]⟩ ++ v) < (k ++ ⟨#[61]⟩ ++ v).size ∧ Go.Proofs.YtlchagphjmfooaaDoor.fc 61 (k ++ ⟨#[61]⟩ ++ v) = k.size := by
  have hR := recR_size k v
  have hl := H.len
  have hp := numL_pos N
  have hsz : (s ++ b).size = N + b.size := by rw [ByteArray.size_append, H.size]
  have hfc : Go.Proofs.YtlchagphjmfooaaDoor.fc 32 (s ++ b) = (numL N).length := H.fc
  have hnb : (numB N).size = (numL N).length := numB_size N
  have hlist := H.list (b := b)
  have hmid : k ++ ⟨#[61]⟩ ++ v = (s ++ b).extract ((numB N).size + 1) (N - 1) := by
    apply ba_ext
    rw [Lib.extract_data, hlist, hnb, app_list, app_list]
    have e1 : (numL N ++ 32 :: (k.data.toList ++ 61 :: (v.data.toList ++ [10]) ++ b.data.toList)).drop ((numL N).length + 1) = k.data.toList ++ 61 :: (v.data.toList ++ [10]) ++ b.data.toList := by
      rw [← List.drop_drop]; simp
    rw [e1]
    have e2 : N - 1 - ((numL N).length + 1) = (k.data.toList ++ [61] ++ v.data.toList).length := by
      simp only [List.length_append, sz_list, List.length_singleton]
      omega
    rw [e2]
    have e3 : k.data.toList ++ 61 :: (v.data.toList ++ [10]) ++ b.data.toList = (k.data.toList ++ [61] ++ v.data.toList) ++ ([10] ++ b.data.toList) := by simp
    rw [e3, List.take_left' rfl]
  have hfm : Go.Proofs.YtlchagphjmfooaaDoor.fc 61 (k ++ ⟨#[61]⟩ ++ v) = k.size := by
    unfold Go.Proofs.YtlchagphjmfooaaDoor.fc
    rw [app_list, app_list, List.append_assoc]
    have := findIdx_pre k.data.toList v.data.toList 61 (fcc_none 61 k hk)
    rw [sz_list] at this
    exact this
  have hms : (k ++ ⟨#[61]⟩ ++ v).size = k.size + 1 + v.size := by
    rw [ByteArray.size_append, ByteArray.size_append]; rfl
  refine ⟨by omega, H.head.symm, ?_, ⟨by omega, ?_, ?_, ?_⟩, ?_, by omega, by omega, ?_, hmid, by omega, hfm⟩
  · obtain ⟨c, r, e, a1, a2⟩ := numL_head N (by omega)
    obtain ⟨c', e1, e2⟩ := bt_of (numB N) 0 (by omega)
    rw [numB_list, e] at e1
    obtain rfl : c = c' := by simpa using e1
    unfold headBad
    omega
  · rw [hnb]; exact numL_le19 hN
  · rw [numB_list]; exact numL_dig N
  · rw [numB_list, numL_vl]; exact hN
  · rw [numB_list, numL_vl]
  · obtain ⟨c, e1, e2⟩ := bt_of (s ++ b) (N - 1) (by omega)
    rw [hlist] at e1
    have e3 : numL N ++ 32 :: (k.data.toList ++ 61 :: (v.data.toList ++ [10]) ++ b.data.toList) = (numL N ++ [32] ++ k.data.toList ++ [61] ++ v.data.toList) ++ (10 :: b.data.toList) := by simp
    have e4 : (numL N ++ [32] ++ k.data.toList ++ [61] ++ v.data.toList).length = N - 1 := by
      simp only [List.length_append, sz_list, List.length_singleton]
      omega
    rw [e3, List.getElem?_append_right (by omega), e4, Nat.sub_self] at e1
    obtain rfl : (10 : UInt8) = c := by simpa using e1
    exact e2
/-- A written record whose key is empty: the documents leave it open. -/
theorem Wrote.readV0 {s : ByteArray} {N : Nat} {k v : ByteArray} (H : Wrote s N k v) (hk : k.size = 0) (hN : N ≤ 9223372036854775807) (b : ByteArray) : (Go.Proofs.YtlchagphjmfooaaDoor.readV (s ++ b)).v = 0 := by
  obtain ⟨c1, c2, c3, c4, c5, c6, c7, c8, c9, c10, c11⟩ := H.isRec0 (by omega) hN b
  unfold Go.Proofs.YtlchagphjmfooaaDoor.readV
  rw [if_pos c1, ← c2]
  unfold headV
  have hnb : ¬ NumBad (s ++ b) (numB N).size N := by
    unfold NumBad
    omega
  rw [if_neg c3, if_neg (not_not_intro c4), ← c5, if_neg hnb, ← c9]
  unfold midV
  rw [if_neg (not_not_intro c10), if_pos (by omega)]
  rfl
/-- The text of written records, one behind the other. -/
inductive Txt : List (ByteArray × ByteArray) → ByteArray → Prop
  | nil : Txt [] ⟨#[]⟩
  | snoc {l s t N k v} : Txt l s → Wrote t N k v → N ≤ 9000000 → ¬ Go.Proofs.YtlchagphjmfooaaDoor.fc 61 k < k.size → Txt (l ++ [(k, v)]) (s ++ t)
theorem Wrote.pos {s : ByteArray} {N : Nat} {k v : ByteArray} (H : Wrote s N k v) : 0 < s.size := by
  have h1 := H.size
  have h2 := H.len
  have := recR_size k v
  omega
theorem app_assoc (a b c : ByteArray) : a ++ b ++ c = a ++ (b ++ c) := by
  apply ba_ext
  simp
theorem app_nil (a : ByteArray) : a ++ ⟨#[]⟩ = a := by
  apply ba_ext
  rw [app_list]
  simp
theorem nil_app (a : ByteArray) : ⟨#[]⟩ ++ a = a := by
  apply ba_ext
  rw [app_list]
  simp
/-- Written records behind one another, the first one first. -/
inductive Txf : List (ByteArray × ByteArray) → ByteArray → Prop
  | nil : Txf [] ⟨#[]⟩
  | cons {l s t N k v} : Wrote t N k v → N ≤ 9000000 → ¬ Go.Proofs.YtlchagphjmfooaaDoor.fc 61 k < k.size → Txf l s → Txf ((k, v) :: l) (t ++ s)
theorem Txf.snoc {l : List (ByteArray × ByteArray)} {s t : ByteArray} {N : Nat} {k v : ByteArray} (h : Txf l s) (H : Wrote t N k v) (hN : N ≤ 9000000) (hk : ¬ Go.Proofs.YtlchagphjmfooaaDoor.fc 61 k < k.size) : Txf (l ++ [(k, v)]) (s ++ t) := by
  induction h with
  | nil => rw [nil_app]; have h := Txf.cons H hN hk .nil; rwa [app_nil] at h
  | cons a1 a2 a3 _ ih => rw [app_assoc]; exact .cons a1 a2 a3 ih
theorem Txt.front {l : List (ByteArray × ByteArray)} {s : ByteArray} (h : Txt l s) : Txf l s := by
  induction h with
  | nil => exact .nil
  | snoc _ a b c ih => exact ih.snoc a b c
/-- What Records reads of them: them, or it is left open. -/
theorem Txf.told {l : List (ByteArray × ByteArray)} {s : ByteArray} (h : Txf l s) : ∀ {rs : List (ByteArray × ByteArray)} {v : Int}, PR s rs v → v = 0 ∨ (v = 1 ∧ rs = l) := by
  induction h with
  | nil =>
    intro rs v hp
    cases hp with
    | nil h0 => exact .inr ⟨rfl, rfl⟩
    | stop h0 _ => exact absurd rfl h0
    | bad h0 _ _ => exact absurd rfl h0
    | cons h0 _ _ _ => exact absurd rfl h0
  | @cons l s t N k v H hN hk _ ih =>
    intro rs y hp
    have hpos := H.pos
    have hsz : (t ++ s).size = t.size + s.size := ByteArray.size_append
    by_cases hk0 : k.size = 0
    · have h0 := H.readV0 hk0 (by omega) s
      cases hp with
      | nil h => omega
      | stop _ _ => exact .inl h0
      | bad _ h _ => rw [h] at h0; cases h0
      | cons _ h _ _ => rw [h] at h0; cases h0
    · have h1 := H.readV ⟨hk0, hk⟩ (by omega) s
      cases hp with
      | nil h => omega
      | stop _ h => rw [h1] at h; exact absurd rfl h
      | bad _ _ _ => exact .inl rfl
      | cons _ h _ hr =>
        rw [h1] at h
        injection h with e1 e2 e3 _
        subst e1 e2 e3
        rcases ih hr with h | ⟨h, h'⟩
        · exact .inl h
        · exact .inr ⟨h, by rw [h']⟩
/-- The last record of a key is in the table. -/
theorem mem_putT_same (T : List (ByteArray × ByteArray)) (r : ByteArray × ByteArray) : r ∈ putT T r := by
  unfold putT
  exact mem_insT.2 (.inl rfl)
theorem mem_putT_other {T : List (ByteArray × ByteArray)} {r x : ByteArray × ByteArray} (h : x ∈ T) (hne : bl x.1 ≠ bl r.1) : x ∈ putT T r := by
  unfold putT
  refine mem_insT.2 (.inr (List.mem_filter.2 ⟨h, ?_⟩))
  simpa using hne
theorem tab_last (a b : List (ByteArray × ByteArray)) (x : ByteArray × ByteArray) : (∀ y ∈ b, y.1 ≠ x.1) → x ∈ tab (a ++ [x] ++ b) := by
  have key : ∀ (c : List (ByteArray × ByteArray)), (∀ y ∈ c.reverse, y.1 ≠ x.1) → x ∈ tab (a ++ [x] ++ c.reverse) := by
    intro c
    induction c with
    | nil => intro _; rw [List.reverse_nil, List.append_nil, tab_snoc]; exact mem_putT_same _ _
    | cons y c ih =>
      intro h
      rw [List.reverse_cons, ← List.append_assoc, tab_snoc]
      refine mem_putT_other (ih fun z hz => h z (by rw [List.reverse_cons]; exact List.mem_append_left _ hz)) fun he => ?_
      exact h y (by rw [List.reverse_cons]; simp) (bl_inj he.symm)
  intro h
  have := key b.reverse (by rw [List.reverse_reverse]; exact h)
  rwa [List.reverse_reverse] at this
/-- Keys of a table are apart. -/
theorem tab_apart {rs : List (ByteArray × ByteArray)} {x y : ByteArray × ByteArray} (hx : x ∈ tab rs) (hy : y ∈ tab rs) (h : x.1 = y.1) : x = y := by
  have h1 := tab_at hx (.lit (.string []))
  have h2 := tab_at hy (.lit (.string []))
  rw [h, h2] at h1
  injection h1 with h1
  injection h1 with h1
  exact Prod.ext h (bl_inj h1.symm)
end Go.Proofs.YtlchagphjmfooaaDoor
