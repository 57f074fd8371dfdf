/- More words on blocks that are known whole: append within the capacity, rows given by a function. Over any program. No condition. -/
import Derived.Test.YtepeehjajhehfaaGreatDoorO
namespace Go.Proofs.YtepeehjajhehfaaGreatDoor
open Go.RowKit

theorem length_splice' {α : Type} (L : List α) (off : Nat) (cs : List α) (h : off + cs.length ≤ L.length) : (splice L off cs).length = L.length := length_splice L off cs h
theorem splice_lo {α : Type} (L : List α) (off : Nat) (cs : List α) (h : off ≤ L.length) : (splice L off cs).take (off + cs.length) = L.take off ++ cs := by
  unfold splice
  rw [← List.append_assoc, List.take_left']
  simp [h]
theorem splice_hi {α : Type} (L : List α) (off : Nat) (cs : List α) (h : off + cs.length ≤ L.length) (i : Nat) (hi : off + cs.length ≤ i) : (splice L off cs)[i]? = L[i]? := by
  unfold splice
  rw [← List.append_assoc, List.getElem?_append_right (by simp; omega), List.getElem?_drop]
  simp only [List.length_append, List.length_take]
  congr 1
  omega

section
variable {P : Program}
/-- 'append' within the capacity onto a block that is known whole. -/
theorem wpList_append_room (w : World) {ops : Array Oper} {rest : List Oper} {o : Oper} {a : Act} {Q : Exit → Act → World → Prop} (hgd : o.guard = none) (s x : Operand) (t : TypeId)
    (ho : o.op = .call { callee := .builtin .append, args := #[s, x], argTypes := #[t, t] })
    (e : TypeId) (z : Value) (size bytes : Nat) (ht : P.underlying t = some (.slice e)) (hinfo : (P.info? e).map (fun i => (i.zero, i.size, i.bytes)) = some (some z, size, bytes))
    (g n cap : Nat) (cur : List Value) (hs : a.eval s = .slice (some ⟨g, 0, none⟩) n cap) (hb : Blk w g e cur)
    (b off m c B : Nat) (news : List Value) (hx : a.eval x = .slice (some ⟨b, off, none⟩) m c) (hl : news.length = m * size) (hr : RC w B (some ⟨b, off, none⟩) news) (h1 : ∀ u ∈ news, u.oneCell' = true)
    (hroom : n + m ≤ cap) (hfit : n * size + news.length ≤ cur.length)
    (hK : ∀ w', Hid (Blk w' g e (splice cur (n * size) news)) → Hid (w.grownBy w' (some g)) → w'.heap.size = w.heap.size → wpList P ops Q rest (a.put o.dst (.slice (some ⟨g, 0, none⟩) (n + m) cap)) w') : wpList P ops Q (o :: rest) a w := by
  obtain ⟨i, hi, hz0, hz1, hz2⟩ := info_parts hinfo
  subst hz1
  have hrun := run_append_room (P := P) w t o.type e i ht hi g n cap cur.toArray hb ⟨b, off, none⟩ m c news hl (fun j u hu => by
    have hpos : 0 < news.length := by
      have := (List.getElem?_eq_some_iff.1 hu).1
      omega
    obtain ⟨b', off', hA, _, hc⟩ := hr hpos
    obtain ⟨rfl, rfl⟩ : b = b' ∧ off = off' := by injection hA with hA; injection hA with h1 h2; exact ⟨h1, h2⟩
    rw [Addr.add_lit]
    exact hc j u hu) h1 hroom (by simpa using hfit)
  refine wpList_plain hgd fun K hK' => ?_
  unfold Oper.wp execOp
  simp only [ho, resolve, invoke, builtin, Sem.run_bind, Sem.run_pure, Result.andThen_ok, List.map_toArray, List.map_cons, List.map_nil, hs, hx, hrun]
  refine hK' _ _ (hK _ ?_ ?_ (by simp [World.setRow]))
  · show Blk _ _ _ _
    unfold Blk splice
    rw [setRow_heap w g _ _ e _ hb]
    simp
  · exact ⟨rfl, rfl, rfl, by simp [World.setRow], fun k hk hne => setRow_other w g k _ (fun e => hne (by rw [e]))⟩
end

/-! ### Rows given by a function -/
def ints (n : Nat) (f : Nat → Int) : List Value := (List.range n).map fun i => Value.int .i64 (f i)
theorem length_ints (n : Nat) (f : Nat → Int) : (ints n f).length = n := by simp [ints]
theorem ints_get (n : Nat) (f : Nat → Int) (i : Nat) (h : i < n) : (ints n f)[i]? = some (.int .i64 (f i)) := by simp [ints, h]
theorem ints_congr {n : Nat} {f g : Nat → Int} (h : ∀ i, i < n → f i = g i) : ints n f = ints n g := by
  unfold ints
  apply List.map_congr_left
  intro i hi
  rw [h i (by simpa using hi)]
theorem ints_set (n : Nat) (f : Nat → Int) (k : Nat) (v : Int) : (ints n f).set k (.int .i64 v) = ints n fun i => if i = k then v else f i := by
  apply List.ext_getElem?
  intro i
  by_cases hi : i < n
  · rw [ints_get _ _ _ hi, List.getElem?_set]
    by_cases hk : k = i
    · subst hk
      simp [length_ints, hi]
    · simp [hk, ints_get _ _ _ hi, Ne.symm hk]
  · rw [List.getElem?_eq_none (by simp [length_ints]; omega), List.getElem?_eq_none (by simp [length_ints]; omega)]
theorem reps_ints (n : Nat) : reps n (.int .i64 0) = ints n fun _ => 0 := by
  apply List.ext_getElem?
  intro i
  by_cases hi : i < n
  · rw [reps_get _ _ _ hi, ints_get _ _ _ hi]
  · rw [List.getElem?_eq_none (by simp [length_reps]; omega), List.getElem?_eq_none (by simp [length_ints]; omega)]

/-- 'x & (2^k - 1)' on int64, of whatever sign. -/
theorem i64_and_511 (a : Int) : bits .and .i64 a 511 = a % 512 := by
  have h511 : (BitVec.ofInt 64 511).toNat = 511 := by decide
  show IntKind.i64.wrap ((BitVec.ofInt 64 a &&& BitVec.ofInt 64 511).toNat : Int) = _
  rw [BitVec.toNat_and, h511, BitVec.toNat_ofInt]
  have h := Nat.and_two_pow_sub_one_eq_mod ((a % ((2 ^ 64 : Nat) : Int)).toNat) 9
  have e9 : (2 ^ 9 - 1 : Nat) = 511 := by decide
  rw [e9] at h
  rw [h, IntKind.wrap_i64]
  omega
end Go.Proofs.YtepeehjajhehfaaGreatDoor
