/- Laws and walks on strings: 'copy(dst, s)' of a string into a block that is known whole; spec.HasNUL; laws.same. -/
import Derived.Test.YtepeehjajhehfaaGreatDoorText
import Derived.Lib.BufferWrite
namespace Go.Proofs.YtepeehjajhehfaaGreatDoor
open Go.RowKit Go.PlainAid
set_option linter.unusedVariables false

section
variable {P : Program}
theorem byteCells_bys (l : List UInt8) : Lib.byteCells l = bys l := rfl
theorem run_copy_blk_string (w : World) (dT sT ty elem : TypeId) (g dLen dCap : Nat) (s : ByteArray) (cur : List UInt8) (t : TypeId)
    (hu : P.underlying dT = some (.slice elem)) (hs : (P.info? elem).map (·.size) = some 1) (hg : Blk w g t (bys cur)) (hfit : dLen ≤ cur.length) :
    (Builtin.copy_ #[dT, sT] ty #[.slice (some ⟨g, 0, none⟩) dLen dCap, .string s]).run P w = .ok (goInt (s.data.toList.take dLen).length) (w.setRow g (bys (splice cur 0 (s.data.toList.take dLen))).toArray) := by
  have hlen : (Lib.byteCells (s.data.toList.take dLen)).length = Nat.min s.size dLen := by rw [Lib.byteCells_length, List.length_take, ← Lib.size_eq]; exact Nat.min_comm _ _
  have hmle : Nat.min s.size dLen ≤ dLen := Nat.min_le_right _ _
  have hst := run_storeCells_at (P := P) g 0 t (Lib.byteCells (s.data.toList.take dLen)) 0 (bys cur).toArray w hg (by rw [hlen]; simp [length_bys]; omega) (Lib.byteCells_one _)
  have htk : List.take (Nat.min s.size dLen) (List.map (fun b : UInt8 => Value.int IntKind.u8 (b.toNat : Int)) s.data.toList) = Lib.byteCells (s.data.toList.take dLen) := by
    unfold Lib.byteCells
    rw [← List.map_take]
    congr 1
    rcases Nat.le_total s.size dLen with h | h
    · rw [show Nat.min s.size dLen = s.size from Nat.min_eq_left h, List.take_of_length_le (by rw [← Lib.size_eq]; exact Nat.le_refl _), List.take_of_length_le (by rw [← Lib.size_eq]; exact h)]
    · rw [show Nat.min s.size dLen = dLen from Nat.min_eq_right h]
  have hl2 : (s.data.toList.take dLen).length = Nat.min s.size dLen := by rw [List.length_take, ← Lib.size_eq]; exact Nat.min_comm _ _
  have hsp : bys (splice cur 0 (s.data.toList.take dLen)) = splice (bys cur) 0 (bys (s.data.toList.take dLen)) := (bys_splice _ _ _).symm
  rw [hsp]
  rw [hl2]
  obtain ⟨X, hX⟩ : ∃ X, s.data.toList.take dLen = X := ⟨_, rfl⟩
  rw [hX] at hst htk hlen ⊢
  have hlX : (bys X).length = Nat.min s.size dLen := hlen
  obtain ⟨m, hm⟩ : ∃ m, Nat.min s.size dLen = m := ⟨_, rfl⟩
  rw [hm] at htk hlX ⊢
  have hst' : (storeCells ⟨g, 0, none⟩ (bys X) 0).run P w = .ok () (w.setRow g (splice (bys cur) 0 (bys X)).toArray) := by
    have e : (bys cur).toArray.toList.take (0 + 0) ++ Lib.byteCells X ++ (bys cur).toArray.toList.drop (0 + 0 + (Lib.byteCells X).length) = splice (bys cur) 0 (bys X) := by
      show (bys cur).take 0 ++ bys X ++ (bys cur).drop (0 + (bys X).length) = _
      unfold splice
      rw [List.append_assoc]
    rw [e] at hst
    exact hst
  clear hst
  obtain ⟨R, hR⟩ : ∃ R, (splice (bys cur) 0 (bys X)).toArray = R := ⟨_, rfl⟩
  rw [hR] at hst' ⊢
  cases hq : P.info? elem with
  | none => simp [hq] at hs
  | some i =>
    simp [Builtin.copy_, run_underlying hu, Builtin.lenOf, Builtin.firstCells, sizeOf, typeInfo, hq, hm]
    rw [htk]
    show (_ : Result _) = _
    rw [byteCells_bys, hst']
    simp [Result.andThen]

theorem setRow_blk (w : World) (g : Nat) (t : TypeId) (cur ys : List Value) (hg : Blk w g t cur) : Blk (w.setRow g ys.toArray) g t ys := setRow_heap w g _ _ t _ hg
theorem setRow_grown (w : World) (g : Nat) (ys : Array Value) : w.grownBy (w.setRow g ys) (some g) := ⟨rfl, rfl, rfl, by simp [World.setRow], fun k hk hne => setRow_other w g k _ (fun e => hne (by rw [e]))⟩
theorem setRow_size (w : World) (g : Nat) (ys : Array Value) : (w.setRow g ys).heap.size = w.heap.size := by simp [World.setRow]

/-- 'copy(dst, s)' of a string to the beginning of a block that is known whole. -/
theorem wpList_copy_string (w : World) {ops : Array Oper} {rest : List Oper} {o : Oper} {a : Act} {Q : Exit → Act → World → Prop} (hgd : o.guard = none) (d s : Operand) (dT sT : TypeId)
    (ho : o.op = .call { callee := .builtin .copy, args := #[d, s], argTypes := #[dT, sT] }) (elem : TypeId) (hu : P.underlying dT = some (.slice elem)) (hsz : (P.info? elem).map (·.size) = some 1)
    (g dLen dCap : Nat) (x : ByteArray) (hd : a.eval d = .slice (some ⟨g, 0, none⟩) dLen dCap) (hs : a.eval s = .string x)
    (cur : List UInt8) (t : TypeId) (hg : Blk w g t (bys cur)) (hfit : dLen ≤ cur.length)
    (hK : ∀ w', Hid (Blk w' g t (bys (splice cur 0 (x.data.toList.take dLen)))) → w.grownBy w' (some g) → w'.heap.size = w.heap.size → wpList P ops Q rest (a.put o.dst (goInt (x.data.toList.take dLen).length)) w') :
    wpList P ops Q (o :: rest) a w := by
  refine wpList_plain hgd fun K hK' => ?_
  have hrun := run_copy_blk_string (P := P) w dT sT o.type elem g dLen dCap x cur t hu hsz hg hfit
  unfold Oper.wp
  simp [execOp, ho, resolve, invoke, builtin, hd, hs, hrun, Result.andThen]
  refine hK' _ _ ?_
  have h := hK _ (setRow_blk w g t _ _ hg) (setRow_grown w g _) (setRow_size w g _)
  simpa using h
end
end Go.Proofs.YtepeehjajhehfaaGreatDoor
