/- Records in the order of their keys: the table that a map of records is. Plain. -/
import Derived.Test.YtlchagphjmfooaaDoorMapL
import Derived.Test.YtlchagphjmfooaaDoorRecs
import Derived.Sort.KeysCollected
import Derived.Maps.Ext
namespace Go.Proofs.YtlchagphjmfooaaDoor
open Go.RowKit Go.PlainAid Go.Maps
set_option linter.unusedVariables false

def bl (a : ByteArray) : List UInt8 := a.data.toList
theorem bl_inj {a b : ByteArray} (h : bl a = bl b) : a = b := ba_ext h
def less (a b : ByteArray) : Bool := Op.bytesLess (bl a) (bl b)
/-- A record before the first one with a greater key. -/
def insT (r : ByteArray × ByteArray) : List (ByteArray × ByteArray) → List (ByteArray × ByteArray)
  | [] => [r]
  | x :: l => if less r.1 x.1 then r :: x :: l else x :: insT r l
/-- A record in the place of one of its key. -/
def putT (l : List (ByteArray × ByteArray)) (r : ByteArray × ByteArray) : List (ByteArray × ByteArray) := insT r (l.filter fun x => !(bl x.1 == bl r.1))
def tab (rs : List (ByteArray × ByteArray)) : List (ByteArray × ByteArray) := rs.foldl putT []
theorem tab_snoc (rs : List (ByteArray × ByteArray)) (r : ByteArray × ByteArray) : tab (rs ++ [r]) = putT (tab rs) r := by simp [tab]
def litE (x : ByteArray × ByteArray) : Lit × DataW Unit := (.string (bl x.1), .lit (.string (bl x.2)))
theorem before_less : ∀ (a b : List UInt8), bytesBefore a b = Op.bytesLess a b
  | [], [] => rfl
  | [], _ :: _ => rfl
  | _ :: _, [] => rfl
  | a :: r, b :: s => by
    rw [bytesBefore, Op.bytesLess, before_less r s]
theorem less_lt : ∀ (x y : List UInt8), Op.bytesLess x y = decide (x < y)
  | [], [] => by simp [Op.bytesLess]
  | _ :: _, [] => by simp [Op.bytesLess]
  | [], _ :: _ => by simp [Op.bytesLess]
  | a :: x, b :: y => by
    rw [Op.bytesLess, less_lt x y]
    simp only [List.cons_lt_cons_iff]
    by_cases h1 : a < b <;> by_cases h2 : a = b <;> by_cases h3 : x < y <;> simp [h1, h2, h3]
theorem insT_map (r : ByteArray × ByteArray) : ∀ l : List (ByteArray × ByteArray), DataW.insert (litE r) (l.map litE) = (insT r l).map litE
  | [] => rfl
  | x :: l => by
    rw [List.map_cons, DataW.insert, insT]
    have e : (litE r).1.before (litE x).1 = less r.1 x.1 := before_less _ _
    rw [e, insT_map r l]
    split <;> rfl
theorem put_map (l : List (ByteArray × ByteArray)) (r : ByteArray × ByteArray) : (DataW.map (l.map litE)).put (.string (bl r.1)) (.lit (.string (bl r.2))) = .map ((putT l r).map litE) := by
  show DataW.map (DataW.insert (litE r) ((l.map litE).filter fun p => !p.1.sameKey (.string (bl r.1)))) = _
  rw [List.filter_map]
  exact congrArg DataW.map (insT_map r _)
theorem tab_map (rs : List (ByteArray × ByteArray)) : mapOf rs = .map ((tab rs).map litE) := by
  have key : ∀ (rs l : List (ByteArray × ByteArray)), rs.foldl (fun d r => d.put (.string r.1.data.toList) (.lit (.string r.2.data.toList))) (.map (l.map litE)) = (.map ((rs.foldl putT l).map litE) : DataW Unit) := by
    intro rs
    induction rs with
    | nil => intro l; rfl
    | cons r rs ih =>
      intro l
      rw [List.foldl_cons, List.foldl_cons, ← ih]
      have hp := put_map l r
      unfold bl at hp
      rw [hp]
  exact key rs []
theorem mem_insT {r y : ByteArray × ByteArray} : ∀ {l : List (ByteArray × ByteArray)}, y ∈ insT r l ↔ y = r ∨ y ∈ l
  | [] => by simp [insT]
  | x :: l => by
    rw [insT]
    split
    · simp
    · rw [List.mem_cons, mem_insT, List.mem_cons]
      constructor
      · rintro (h | h | h)
        · exact .inr (.inl h)
        · exact .inl h
        · exact .inr (.inr h)
      · rintro (h | h | h)
        · exact .inr (.inl h)
        · exact .inl h
        · exact .inr (.inr h)
theorem less_trans {a b c : ByteArray} (h1 : less a b = true) (h2 : less b c = true) : less a c = true := by
  unfold less at *
  rw [← before_less] at *
  exact WideShapes.bytes_trans _ _ _ h1 h2
theorem less_irrefl (a : ByteArray) : less a a = false := by
  unfold less
  rw [← before_less]
  exact WideAt.bytes_irrefl _
theorem less_total {a b : ByteArray} (h : bl a ≠ bl b) (hn : less a b = false) : less b a = true := by
  unfold less at *
  rw [← before_less] at *
  rcases WideAt.bytes_total _ _ h with h1 | h1
  · rw [hn] at h1; cases h1
  · exact h1
def SortedT (l : List (ByteArray × ByteArray)) : Prop := l.Pairwise fun x y => less x.1 y.1 = true
theorem insT_sorted (r : ByteArray × ByteArray) : ∀ (l : List (ByteArray × ByteArray)), SortedT l → (∀ x ∈ l, bl x.1 ≠ bl r.1) → SortedT (insT r l)
  | [], _, _ => by simp [insT, SortedT]
  | x :: l, h, hn => by
    obtain ⟨h1, h2⟩ := List.pairwise_cons.1 h
    rw [insT]
    by_cases hl : less r.1 x.1 = true
    · rw [if_pos hl]
      refine List.pairwise_cons.2 ⟨fun y hy => ?_, h⟩
      rcases List.mem_cons.1 hy with rfl | hy
      · exact hl
      · exact less_trans hl (h1 y hy)
    · rw [if_neg hl]
      refine List.pairwise_cons.2 ⟨fun y hy => ?_, insT_sorted r l h2 (fun z hz => hn z (by simp [hz]))⟩
      rcases mem_insT.1 hy with rfl | hy
      · exact less_total (fun e => hn x (by simp) e.symm) (by simpa using hl)
      · exact h1 y hy
theorem putT_sorted {l : List (ByteArray × ByteArray)} (h : SortedT l) (r : ByteArray × ByteArray) : SortedT (putT l r) :=
  insT_sorted r _ (h.sublist List.filter_sublist) (fun x hx => by have := (List.mem_filter.1 hx).2; simpa using this)
theorem tab_sorted (rs : List (ByteArray × ByteArray)) : SortedT (tab rs) := by
  have key : ∀ (rs l : List (ByteArray × ByteArray)), SortedT l → SortedT (rs.foldl putT l) := by
    intro rs
    induction rs with
    | nil => exact fun l h => h
    | cons r rs ih => exact fun l h => ih _ (putT_sorted h r)
  exact key rs [] List.Pairwise.nil
theorem length_insT (r : ByteArray × ByteArray) : ∀ l : List (ByteArray × ByteArray), (insT r l).length = l.length + 1
  | [] => rfl
  | x :: l => by
    rw [insT]
    split
    · rfl
    · simp [length_insT r l]
theorem putT_len (l : List (ByteArray × ByteArray)) (r : ByteArray × ByteArray) : (putT l r).length ≤ l.length + 1 := by
  unfold putT
  rw [length_insT]
  have := List.length_filter_le (fun x : ByteArray × ByteArray => !(bl x.1 == bl r.1)) l
  omega
theorem tab_len (rs : List (ByteArray × ByteArray)) : (tab rs).length ≤ rs.length := by
  have key : ∀ (rs l : List (ByteArray × ByteArray)), (rs.foldl putT l).length ≤ l.length + rs.length := by
    intro rs
    induction rs with
    | nil => intro l; simp
    | cons r rs ih =>
      intro l
      have h1 := ih (putT l r)
      have h2 := putT_len l r
      rw [List.foldl_cons, List.length_cons]
      omega
  have := key rs []
  simp only [List.length_nil, Nat.zero_add] at this
  exact this
theorem mem_putT {l : List (ByteArray × ByteArray)} {r y : ByteArray × ByteArray} (h : y ∈ putT l r) : y = r ∨ y ∈ l := by
  rcases mem_insT.1 h with h | h
  · exact .inl h
  · exact .inr (List.mem_filter.1 h).1
theorem mem_tab {rs : List (ByteArray × ByteArray)} {y : ByteArray × ByteArray} (h : y ∈ tab rs) : y ∈ rs := by
  have key : ∀ (rs l : List (ByteArray × ByteArray)), y ∈ rs.foldl putT l → y ∈ l ∨ y ∈ rs := by
    intro rs
    induction rs with
    | nil => exact fun l h => .inl h
    | cons r rs ih =>
      intro l h
      rcases ih _ h with h | h
      · rcases mem_putT h with rfl | h
        · exact .inr (by simp)
        · exact .inl h
      · exact .inr (by simp [h])
  rcases key rs [] h with h | h
  · simp at h
  · exact h
/-- What the map gives at a key of the table. -/
theorem tab_at {rs : List (ByteArray × ByteArray)} {x : ByteArray × ByteArray} (h : x ∈ tab rs) (z : DataW Unit) : (mapOf rs).atKey (.string (bl x.1)) z = .lit (.string (bl x.2)) := by
  rw [tab_map]
  refine WideAt.atKey_mem z (strLit _) ?_ (List.mem_map.2 ⟨x, h, rfl⟩)
  rw [List.pairwise_map]
  refine (tab_sorted rs).imp (fun {a b} hab e => ?_)
  have e2 : bl a.1 = bl b.1 := by simpa [litE] using e
  rw [bl_inj e2, less_irrefl] at hab
  cases hab
/-- The keys of the map, sorted, are those of the table. -/
theorem tab_keys {rs : List (ByteArray × ByteArray)} {ss : List (List UInt8)} (h : ss.Perm (strKeys (mapOf rs))) : ss.mergeSort (fun x y => decide (x ≤ y)) = (tab rs).map fun x => bl x.1 := by
  have e : strKeys (mapOf rs) = (tab rs).map fun x => bl x.1 := by
    rw [tab_map]
    show ((tab rs).map litE).map (fun p => strOf p.1) = _
    rw [List.map_map]
    rfl
  rw [e] at h
  refine (mergeSort_of_perm h).trans ?_
  refine List.mergeSort_of_pairwise ?_
  rw [List.pairwise_map]
  refine (tab_sorted rs).imp (fun {a b} hab => ?_)
  unfold less at hab
  rw [less_lt] at hab
  have := of_decide_eq_true hab
  exact decide_eq_true (List.le_of_lt this)
end Go.Proofs.YtlchagphjmfooaaDoor
