/- 'copy' of a string or of bytes to any place of a block that is known whole; the same as one step of a drawn region. -/
import Derived.Test.YtepeehjajhehfaaGreatDoorStr
import Derived.Test.YtepeehjajhehfaaGreatDoorFar
import Derived.Deep.RegionHeld3
import Derived.Deep.RegionLaw
namespace Go.Proofs.YtepeehjajhehfaaGreatDoor
open Go.RowKit Go.PlainAid
set_option linter.unusedVariables false

section
variable {P : Program}
/-- 'copy(dst, src)' of bytes into a block that is known whole, as one step of a region that draws its order; the source may be the shorter one. -/
theorem step_copy_any {ops : Array Oper} {o : Oper} {a : Act} {w : World} {K : Act → World → Prop} {Q : Exit → Act → World → Prop} {E : Prop} (hgd : o.guard = none) (d s : Operand) (dT sT : TypeId)
    (ho : o.op = .call { callee := .builtin .copy, args := #[d, s], argTypes := #[dT, sT] }) (elem : TypeId) (hu : P.underlying dT = some (.slice elem)) (hsz : (P.info? elem).map (·.size) = some 1)
    (g off dLen dCap sLen sCap m : Nat) (sp : Option Addr) (hd : a.eval d = .slice (some ⟨g, off, none⟩) dLen dCap) (hs : a.eval s = .slice sp sLen sCap)
    (cur ss : List UInt8) (t : TypeId) (B : Nat) (hg : Blk w g t (bys cur)) (hsl : ss.length = sLen) (hr : RB w B sp ss) (hm : (ss.take dLen).length = m) (hpos : 0 < m) (hfit : off + m ≤ cur.length)
    (hK : ∀ w', Hid (Blk w' g t (bys (splice cur off (ss.take dLen)))) → Hid (Far [g] w w') → K (a.put o.dst (.int .i64 m)) w') :
    if Region.wanted o (yielded ops a.tmps) = true then Oper.wp P o a w K Q else E := by
  have hw : Region.wanted o (yielded ops a.tmps) = true := by simp [Region.wanted, hgd]
  rw [if_pos hw]
  have hml : m = min dLen sLen := by rw [← hm, List.length_take, hsl]
  obtain ⟨b, so, rfl, _, hc⟩ := hr (by omega)
  have hrun := run_copy_row (P := P) w dT sT o.type elem g off dLen dCap ⟨b, so, none⟩ sLen sCap (bys cur).toArray t (bys (ss.take dLen)) hu hsz hg (by rw [length_bys, hm, hml]; exact Nat.min_comm _ _) (by
    intro j v hv
    obtain ⟨hj, rfl⟩ := bys_get_of hv
    rw [List.length_take] at hj
    rw [Addr.add_lit, hc j (by omega)]
    simp [byt, List.getD, show j < dLen by omega]) (by simp [length_bys]; rw [List.length_take] at hm; omega) (bys_one _)
  unfold Oper.wp
  simp [execOp, ho, resolve, invoke, builtin, hd, hs, hrun, Result.andThen]
  have e : goInt (bys (ss.take dLen)).length = .int .i64 m := by rw [length_bys, hm]; rfl
  rw [e]
  refine hK _ (show Blk _ _ _ _ from ?_) (show Far _ _ _ from Far.of_grown (row := some g) ⟨rfl, rfl, rfl, by simp [World.setRow], fun k hk hne => setRow_other w g k _ (fun e => hne (by rw [e]))⟩ (fun k hk => by cases hk; simp))
  rw [← bys_splice]
  unfold Blk splice
  rw [setRow_heap w g _ _ t _ hg]
end
section
variable {P : Program}
theorem run_copy_off_string (w : World) (dT sT ty elem : TypeId) (g off dLen dCap : Nat) (s : ByteArray) (cur : List UInt8) (t : TypeId)
    (hu : P.underlying dT = some (.slice elem)) (hs : (P.info? elem).map (·.size) = some 1) (hg : Blk w g t (bys cur)) (hfit : off + dLen ≤ cur.length) :
    (Builtin.copy_ #[dT, sT] ty #[.slice (some ⟨g, off, none⟩) dLen dCap, .string s]).run P w = .ok (goInt (s.data.toList.take dLen).length) (w.setRow g (bys (splice cur off (s.data.toList.take dLen))).toArray) := by
  have hlen : (Lib.byteCells (s.data.toList.take dLen)).length = Nat.min s.size dLen := by rw [Lib.byteCells_length, List.length_take, ← Lib.size_eq]; exact Nat.min_comm _ _
  have hmle : Nat.min s.size dLen ≤ dLen := Nat.min_le_right _ _
  have hst := run_storeCells_at (P := P) g off t (Lib.byteCells (s.data.toList.take dLen)) 0 (bys cur).toArray w hg (by rw [hlen]; simp [length_bys]; omega) (Lib.byteCells_one _)
  have htk : List.take (Nat.min s.size dLen) (List.map (fun b : UInt8 => Value.int IntKind.u8 (b.toNat : Int)) s.data.toList) = Lib.byteCells (s.data.toList.take dLen) := by
    unfold Lib.byteCells
    rw [← List.map_take]
    congr 1
    rcases Nat.le_total s.size dLen with h | h
    · rw [show Nat.min s.size dLen = s.size from Nat.min_eq_left h, List.take_of_length_le (by rw [← Lib.size_eq]; exact Nat.le_refl _), List.take_of_length_le (by rw [← Lib.size_eq]; exact h)]
    · rw [show Nat.min s.size dLen = dLen from Nat.min_eq_right h]
  have hl2 : (s.data.toList.take dLen).length = Nat.min s.size dLen := by rw [List.length_take, ← Lib.size_eq]; exact Nat.min_comm _ _
  have hsp : bys (splice cur off (s.data.toList.take dLen)) = splice (bys cur) off (bys (s.data.toList.take dLen)) := (bys_splice _ _ _).symm
  rw [hsp]
  rw [hl2]
  obtain ⟨X, hX⟩ : ∃ X, s.data.toList.take dLen = X := ⟨_, rfl⟩
  rw [hX] at hst htk hlen ⊢
  have hlX : (bys X).length = Nat.min s.size dLen := hlen
  obtain ⟨m, hm⟩ : ∃ m, Nat.min s.size dLen = m := ⟨_, rfl⟩
  rw [hm] at htk hlX ⊢
  have hst' : (storeCells ⟨g, off, none⟩ (bys X) 0).run P w = .ok () (w.setRow g (splice (bys cur) off (bys X)).toArray) := by
    have e : (bys cur).toArray.toList.take (off + 0) ++ Lib.byteCells X ++ (bys cur).toArray.toList.drop (off + 0 + (Lib.byteCells X).length) = splice (bys cur) off (bys X) := by
      show (bys cur).take off ++ bys X ++ (bys cur).drop (off + (bys X).length) = _
      unfold splice
      rw [List.append_assoc]
    rw [e] at hst
    exact hst
  clear hst
  obtain ⟨R, hR⟩ : ∃ R, (splice (bys cur) off (bys X)).toArray = R := ⟨_, rfl⟩
  rw [hR] at hst' ⊢
  cases hq : P.info? elem with
  | none => simp [hq] at hs
  | some i =>
    simp [Builtin.copy_, run_underlying hu, Builtin.lenOf, Builtin.firstCells, sizeOf, typeInfo, hq, hm]
    rw [htk]
    show (_ : Result _) = _
    rw [byteCells_bys, hst']
    simp [Result.andThen]

/-- 'copy(dst, s)' of a string to place off of a block that is known whole. -/
theorem wpList_copy_stro (w : World) {ops : Array Oper} {rest : List Oper} {o : Oper} {a : Act} {Q : Exit → Act → World → Prop} (hgd : o.guard = none) (d s : Operand) (dT sT : TypeId)
    (ho : o.op = .call { callee := .builtin .copy, args := #[d, s], argTypes := #[dT, sT] }) (elem : TypeId) (hu : P.underlying dT = some (.slice elem)) (hsz : (P.info? elem).map (·.size) = some 1)
    (g off dLen dCap : Nat) (x : ByteArray) (hd : a.eval d = .slice (some ⟨g, off, none⟩) dLen dCap) (hs : a.eval s = .string x)
    (cur : List UInt8) (t : TypeId) (hg : Blk w g t (bys cur)) (hfit : off + dLen ≤ cur.length)
    (hK : ∀ w', Hid (Blk w' g t (bys (splice cur off (x.data.toList.take dLen)))) → w.grownBy w' (some g) → w'.heap.size = w.heap.size → wpList P ops Q rest (a.put o.dst (goInt (x.data.toList.take dLen).length)) w') :
    wpList P ops Q (o :: rest) a w := by
  refine wpList_plain hgd fun K hK' => ?_
  have hrun := run_copy_off_string (P := P) w dT sT o.type elem g off dLen dCap x cur t hu hsz hg hfit
  unfold Oper.wp
  simp [execOp, ho, resolve, invoke, builtin, hd, hs, hrun, Result.andThen]
  refine hK' _ _ ?_
  have h := hK _ (setRow_blk w g t _ _ hg) (setRow_grown w g _) (setRow_size w g _)
  simpa using h
/-- .. as one step of a region that draws its order. -/
theorem step_copy_stro {ops : Array Oper} {o : Oper} {a : Act} {w : World} {K : Act → World → Prop} {Q : Exit → Act → World → Prop} {E : Prop} (hgd : o.guard = none) (d s : Operand) (dT sT : TypeId)
    (ho : o.op = .call { callee := .builtin .copy, args := #[d, s], argTypes := #[dT, sT] }) (elem : TypeId) (hu : P.underlying dT = some (.slice elem)) (hsz : (P.info? elem).map (·.size) = some 1)
    (g off dLen dCap : Nat) (x : ByteArray) (hd : a.eval d = .slice (some ⟨g, off, none⟩) dLen dCap) (hs : a.eval s = .string x)
    (cur : List UInt8) (t : TypeId) (hg : Blk w g t (bys cur)) (hfit : off + dLen ≤ cur.length)
    (hK : ∀ w', Hid (Blk w' g t (bys (splice cur off (x.data.toList.take dLen)))) → w.grownBy w' (some g) → K (a.put o.dst (goInt (x.data.toList.take dLen).length)) w') :
    if Region.wanted o (yielded ops a.tmps) = true then Oper.wp P o a w K Q else E := by
  have hw : Region.wanted o (yielded ops a.tmps) = true := by simp [Region.wanted, hgd]
  rw [if_pos hw]
  have hrun := run_copy_off_string (P := P) w dT sT o.type elem g off dLen dCap x cur t hu hsz hg hfit
  unfold Oper.wp
  simp [execOp, ho, resolve, invoke, builtin, hd, hs, hrun, Result.andThen]
  have h := hK _ (setRow_blk w g t _ _ hg) (setRow_grown w g _)
  simpa [Oper.upon] using h
end
end Go.Proofs.YtepeehjajhehfaaGreatDoor
