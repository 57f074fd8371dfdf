/- spec.Can: plain words. A slice literal of five or six numbers, as one law: nothing of its making is left to be reckoned. spec.Splits, both ways. -/
import Derived.Test.YtepeehjajhehfaaGreatDoorMA2
import Derived.Great.BuildSlice
namespace Go.Proofs.YtepeehjajhehfaaGreatDoor
open Go.RowKit Go.PlainAid
set_option linter.unusedVariables false

/-- What is known of the functions that Can calls, at a format. -/
structure CanKit (f : Int) where
  TR : ByteArray → Int → Int → Prop
  OR : ByteArray → Int → Prop
  RR : ByteArray → ByteArray → Int → Prop
  text : ∀ (s : ByteArray) (n : Int) (w : World), s.size ≤ 4611686018427387904 → Calls Tryz.prog 20 #[.string s, .int .i64 n, .int .i64 f] w fun e w' => ∃ v, e = .returned (.int .i64 v) ∧ TR s n v ∧ w = w'
  owner : ∀ (s : ByteArray) (w : World), s.size ≤ 4611686018427387904 → Calls Tryz.prog 24 #[.string s, .int .i64 f] w fun e w' => ∃ v, e = .returned (.int .i64 v) ∧ OR s v ∧ Below w.heap.size w w'
  live : Prop
  rec_ : live → ∀ (k v : ByteArray) (w : World), k.size ≤ 2147483647 → v.size ≤ 2147483647 → Calls Tryz.prog 28 #[.agg #[.string k, .string v]] w fun e w' => ∃ x, e = .returned (.int .i64 x) ∧ RR k v x ∧ Below w.heap.size w w'
/-- The type of a header is one of which the documents speak. -/
def TypeOk (h : Hd) : Prop := 48 ≤ h.ty ∧ h.ty ≤ 55 ∧ h.name.size ≠ 0 ∧ (slB h.name = true → h.ty = 53) ∧ (h.link.size ≠ 0 → h.ty = 49 ∨ h.ty = 50)
def DevOk (h : Hd) : Prop := h.ty = 51 ∨ h.ty = 52 ∨ (h.maj = 0 ∧ h.min = 0)
/-- The verdict on a header, step by step. -/
structure CanR {f : Int} (K : CanKit f) (h : Hd) (rs : List (ByteArray × ByteArray)) (v : Int) : Prop where
  ns : NotStrange h
  steps : ∃ v0 tn0 tn tl ou og v1 v2 v3 v4 v5 v6 v7 v8 : Int, (v0 = 0 ∨ (v0 = 1 ∧ TypeOk h.prom ∧ DevOk h.prom)) ∧ K.TR h.name 256 tn0 ∧
    ((f = 1 ∧ tn0 = 1 ∧ ∃ b : Bool, (b = true ↔ (h.name.size ≤ 100 ∨ ∃ i, Sp h.name i)) ∧ tn = whenV b) ∨ (¬ (f = 1 ∧ tn0 = 1) ∧ tn = tn0)) ∧ K.TR h.link 100 tl ∧ K.OR h.un ou ∧ K.OR h.gn og ∧
    v1 = allV [v0, tn, tl, ou, og] ∧
    v2 = allV [v1, smallV h.mode f false, smallV h.uid f true, smallV h.gid f true, smallV h.maj f false, smallV h.min f false] ∧
    v3 = allV [v2, whenV ((decide (0 ≤ h.size) || !hasD h.prom.ty) && (decide (f ≠ 1) || decide (h.size < 8589934592))), momentV h.ms h.mn f] ∧
    v4 = (if h.size < 0 then allV [v3, 0] else v3) ∧
    v5 = (if f = 1 then allV [v4, whenV (decide (0 ≤ h.ms) && decide (h.ms < 8589934592)), whenV (!h.ha && !h.hc)] else v4) ∧
    v6 = (if h.ha = true then allV [v5, momentV h.as_ h.an f] else v5) ∧
    v7 = (if h.hc = true then allV [v6, momentV h.cs h.cn f] else v6) ∧
    v8 = (if 0 < h.rn ∧ f ≠ 2 then allV [v7, 2] else v7) ∧
    ∃ xs : List Int, xs.length = rs.length ∧ (∀ k, k < rs.length → K.RR (rk rs k) (rv rs k) (nv xs k)) ∧ v = xs.foldl (fun v x => allV [v, x]) v8
def CanP {f : Int} (K : CanKit f) (h : Hd) (rs : List (ByteArray × ByteArray)) (w : World) (e : Ending) (w' : World) : Prop := ∃ v, e = .returned (.int .i64 v) ∧ (v = 0 ∨ CanR K h rs v) ∧ Below w.heap.size w w'
theorem emp_yes {h : ByteArray} (h0 : h.size = 0) : h.toList = [] ∧ h.toList.isEmpty = true := by
  have e := Lib.size_eq h
  have : h.toList = [] := by rw [Lib.toList_data]; exact List.eq_nil_of_length_eq_zero (by omega)
  exact ⟨this, by rw [this]; rfl⟩
theorem emp_no {h : ByteArray} (h0 : ¬ h.size = 0) : ¬ h.toList = [] ∧ h.toList.isEmpty = false := by
  have e := Lib.size_eq h
  have : ¬ h.toList = [] := by rw [Lib.toList_data]; intro hh; rw [hh] at e; exact h0 e
  exact ⟨this, by cases hl : h.toList with
    | nil => exact absurd hl this
    | cons a b => rfl⟩
theorem prom_ty (h : Hd) : ¬ h.prom.ty = 0 := by
  unfold Hd.prom
  show ¬ (if h.ty = 0 then (if slB h.name = true then 53 else 48) else h.ty) = 0
  split
  · split <;> decide
  · assumption
/-- What 60 tells in Can: the type of a header. -/
def TyR (t : Int) (N L : ByteArray) (b : Bool) : Prop := b = false → 48 ≤ t ∧ t ≤ 55 ∧ N.size ≠ 0 ∧ (slB N = true → t = 53) ∧ (L.size ≠ 0 → t = 49 ∨ t = 50)
theorem nums_al (w : World) (T : TypeId) (xs : List Int) : RC (w.alloc (.cells (nums xs).toArray T)) (w.heap.size + 1) (some ⟨w.heap.size, 0, none⟩) (nums xs) := RC.of_blk (Blk.new w T (nums xs))
theorem all2 (w : World) (T : TypeId) (x1 x2 : Int) : Calls Tryz.prog 23 #[.slice (some ⟨w.heap.size, 0, none⟩) 2 2] (w.alloc (.cells #[.int .i64 x1, .int .i64 x2] T)) fun e w' => e = .returned (.int .i64 (allV [x1, x2])) ∧ w.alloc (.cells #[.int .i64 x1, .int .i64 x2] T) = w' :=
  specAll _ 2 2 _ [x1, x2] _ rfl (nums_al w T [x1, x2]) (by omega)
theorem all3 (w : World) (T : TypeId) (x1 x2 x3 : Int) : Calls Tryz.prog 23 #[.slice (some ⟨w.heap.size, 0, none⟩) 3 3] (w.alloc (.cells #[.int .i64 x1, .int .i64 x2, .int .i64 x3] T)) fun e w' => e = .returned (.int .i64 (allV [x1, x2, x3])) ∧ w.alloc (.cells #[.int .i64 x1, .int .i64 x2, .int .i64 x3] T) = w' :=
  specAll _ 3 3 _ [x1, x2, x3] _ rfl (nums_al w T [x1, x2, x3]) (by omega)
theorem all5 (w : World) (T : TypeId) (x1 x2 x3 x4 x5 : Int) : Calls Tryz.prog 23 #[.slice (some ⟨w.heap.size, 0, none⟩) 5 5] (w.alloc (.cells #[.int .i64 x1, .int .i64 x2, .int .i64 x3, .int .i64 x4, .int .i64 x5] T)) fun e w' => e = .returned (.int .i64 (allV [x1, x2, x3, x4, x5])) ∧ w.alloc (.cells #[.int .i64 x1, .int .i64 x2, .int .i64 x3, .int .i64 x4, .int .i64 x5] T) = w' :=
  specAll _ 5 5 _ [x1, x2, x3, x4, x5] _ rfl (nums_al w T [x1, x2, x3, x4, x5]) (by omega)
theorem all6 (w : World) (T : TypeId) (x1 x2 x3 x4 x5 x6 : Int) : Calls Tryz.prog 23 #[.slice (some ⟨w.heap.size, 0, none⟩) 6 6] (w.alloc (.cells #[.int .i64 x1, .int .i64 x2, .int .i64 x3, .int .i64 x4, .int .i64 x5, .int .i64 x6] T)) fun e w' => e = .returned (.int .i64 (allV [x1, x2, x3, x4, x5, x6])) ∧ w.alloc (.cells #[.int .i64 x1, .int .i64 x2, .int .i64 x3, .int .i64 x4, .int .i64 x5, .int .i64 x6] T) = w' :=
  specAll _ 6 6 _ [x1, x2, x3, x4, x5, x6] _ rfl (nums_al w T [x1, x2, x3, x4, x5, x6]) (by omega)
end Go.Proofs.YtepeehjajhehfaaGreatDoor
namespace Go.Proofs.YtepeehjajhehfaaGreatDoor
open Go.RowKit Go.PlainAid
set_option linter.unusedVariables false

theorem int_size : (Tryz.prog.info? 3).map (·.size) = some 1 := by kernel_rfl
theorem int_zero : (Tryz.prog.info? 3).bind (·.zero) = some (.int .i64 0) := by kernel_rfl
theorem bs5 {o : Oper} {a : Act} {w : World} {K : Act → World → Prop} {Q : Exit → Act → World → Prop} (t0 t1 t2 t3 t4 : Operand) (ho : o.op = .buildSlice 27 5 #[(0, t0), (1, t1), (2, t2), (3, t3), (4, t4)]) (x0 x1 x2 x3 x4 : Int) (h0 : a.eval t0 = .int .i64 x0) (h1 : a.eval t1 = .int .i64 x1) (h2 : a.eval t2 = .int .i64 x2) (h3 : a.eval t3 = .int .i64 x3) (h4 : a.eval t4 = .int .i64 x4)
    (h : K (a.put o.dst (.slice (some ⟨w.heap.size, 0, none⟩) 5 5)) (w.alloc (.cells #[.int .i64 x0, .int .i64 x1, .int .i64 x2, .int .i64 x3, .int .i64 x4] 3))) : o.wp Tryz.prog a w K Q := by
  cases hie : Tryz.prog.info? 3 with
  | none => have e := int_size; rw [hie] at e; cases e
  | some ie =>
    have e1 := int_size
    have e2 := int_zero
    rw [hie] at e1 e2
    have hs : ie.size = 1 := by simpa using e1
    have hz : ie.zero = some (.int .i64 0) := by simpa using e2
    refine wp_buildSlice 27 3 5 _ ho _ ie (.int .i64 0) Tryz.underlying27 hie hz (by rw [hs]; decide) (by rw [hs]; decide) ?_ h
    rw [hs]
    have e : (#[(0, t0), (1, t1), (2, t2), (3, t3), (4, t4)].map fun (i, x) => (i, a.eval x)).toList = [(0, Value.int .i64 x0), (1, Value.int .i64 x1), (2, Value.int .i64 x2), (3, Value.int .i64 x3), (4, Value.int .i64 x4)] := by
      simp [h0, h1, h2, h3, h4]
    rw [e]

    have key : Instr.fill (fun i => some (i * 1, 1)) ((Array.range (5 * 1)).map ((Value.int .i64 0).cells[· % (Value.int .i64 0).cells.size]!)) [(0, Value.int .i64 x0), (1, Value.int .i64 x1), (2, Value.int .i64 x2), (3, Value.int .i64 x3), (4, Value.int .i64 x4)] = some #[.int .i64 x0, .int .i64 x1, .int .i64 x2, .int .i64 x3, .int .i64 x4] := by kernel_rfl
    exact key
theorem bs6 {o : Oper} {a : Act} {w : World} {K : Act → World → Prop} {Q : Exit → Act → World → Prop} (t0 t1 t2 t3 t4 t5 : Operand) (ho : o.op = .buildSlice 27 6 #[(0, t0), (1, t1), (2, t2), (3, t3), (4, t4), (5, t5)]) (x0 x1 x2 x3 x4 x5 : Int) (h0 : a.eval t0 = .int .i64 x0) (h1 : a.eval t1 = .int .i64 x1) (h2 : a.eval t2 = .int .i64 x2) (h3 : a.eval t3 = .int .i64 x3) (h4 : a.eval t4 = .int .i64 x4) (h5 : a.eval t5 = .int .i64 x5)
    (h : K (a.put o.dst (.slice (some ⟨w.heap.size, 0, none⟩) 6 6)) (w.alloc (.cells #[.int .i64 x0, .int .i64 x1, .int .i64 x2, .int .i64 x3, .int .i64 x4, .int .i64 x5] 3))) : o.wp Tryz.prog a w K Q := by
  cases hie : Tryz.prog.info? 3 with
  | none => have e := int_size; rw [hie] at e; cases e
  | some ie =>
    have e1 := int_size
    have e2 := int_zero
    rw [hie] at e1 e2
    have hs : ie.size = 1 := by simpa using e1
    have hz : ie.zero = some (.int .i64 0) := by simpa using e2
    refine wp_buildSlice 27 3 6 _ ho _ ie (.int .i64 0) Tryz.underlying27 hie hz (by rw [hs]; decide) (by rw [hs]; decide) ?_ h
    rw [hs]
    have e : (#[(0, t0), (1, t1), (2, t2), (3, t3), (4, t4), (5, t5)].map fun (i, x) => (i, a.eval x)).toList = [(0, Value.int .i64 x0), (1, Value.int .i64 x1), (2, Value.int .i64 x2), (3, Value.int .i64 x3), (4, Value.int .i64 x4), (5, Value.int .i64 x5)] := by
      simp [h0, h1, h2, h3, h4, h5]
    rw [e]

    have key : Instr.fill (fun i => some (i * 1, 1)) ((Array.range (6 * 1)).map ((Value.int .i64 0).cells[· % (Value.int .i64 0).cells.size]!)) [(0, Value.int .i64 x0), (1, Value.int .i64 x1), (2, Value.int .i64 x2), (3, Value.int .i64 x3), (4, Value.int .i64 x4), (5, Value.int .i64 x5)] = some #[.int .i64 x0, .int .i64 x1, .int .i64 x2, .int .i64 x3, .int .i64 x4, .int .i64 x5] := by kernel_rfl
    exact key
end Go.Proofs.YtepeehjajhehfaaGreatDoor
namespace Go.Proofs.YtepeehjajhehfaaGreatDoor
open Go.RowKit Go.PlainAid
set_option linter.unusedVariables false

set_option maxRecDepth 20000 in
set_option maxHeartbeats 800000 in
theorem specSplitsB (s : ByteArray) (w : World) (hs : s.size ≤ 4611686018427387903) :
    Calls Tryz.prog 22 #[.string s] w fun e w' => ∃ b : Bool, e = .returned (.bool b) ∧ (b = true ↔ ∃ i, Sp s i) ∧ w = w' := by
  by_cases hno : ∀ i, ¬ Sp s i
  · refine (specSplits s w hs hno).mono ?_
    rintro e w' ⟨rfl, rfl⟩
    exact ⟨false, rfl, ⟨(fun h => by cases h), (fun h => h.elim fun i h => absurd h (hno i))⟩, rfl⟩
  · obtain ⟨i0, hi0⟩ : ∃ i, Sp s i := by
      rcases Classical.em (∃ i, Sp s i) with h | h
      · exact h
      · exact absurd (fun i hi => h ⟨i, hi⟩) hno
    have HI := Lib.hid hi0
    clear hno hi0
    go_enter Tryz.func22, Tryz.ntmps22
    go_wp2
    go_loopw [6] (fun i wr => ∃ k : Nat, k ≤ s.size ∧ i = .int .i64 k ∧ Hid (∀ j, j < k → ¬ Sp s j) ∧ Hid (w = wr)) (fun i _ => s.size - (intOf i).toNat)
    case atStart => exact ⟨0, by omega, rfl, Lib.hid (fun j hj => by omega), Lib.hid rfl⟩
    case round =>
      obtain ⟨k, hk, rfl, HK, hw⟩ := hrel
      have hw' := hw.out
      clear hw
      subst hw'
      by_cases hlt : k < s.size
      · have hlt' : (k : Int) < (s.size : Int) := by omega
        have HSP := fun w => Lib.hid (specSplit s k w (by omega) (by omega))
        by_cases hsp : Sp s k
        · rw [spB_true hsp] at HSP
          have HX := Lib.hid hsp
          clear hsp
          go_wp2_with (go_at_call 42; refine (HSP _).out.mono ?_; rintro e w' ⟨rfl, rfl⟩)
          go_ret
          exact ⟨true, rfl, ⟨fun _ => ⟨k, HX.out⟩, fun _ => rfl⟩, rfl⟩
        · rw [spB_false hsp] at HSP
          have HN : Hid (∀ j, j < k + 1 → ¬ Sp s j) := Lib.hid (fun j hj => by
            by_cases h : j < k
            · exact HK.out j h
            · obtain rfl : j = k := by omega
              exact hsp)
          clear hsp
          go_wp2_with (go_at_call 42; refine (HSP _).out.mono ?_; rintro e w' ⟨rfl, rfl⟩)
          go_roundw
          case rel => exact ⟨k + 1, by omega, by go_num, HN, Lib.hid (by first | trivial | rfl)⟩
          case measure => simp [intOf]; omega
      · exact absurd HI.out (HK.out i0 (by have := HI.out; unfold Sp at this; omega))
end Go.Proofs.YtepeehjajhehfaaGreatDoor
