/- zzFits3. What impl.Allowed answers: plain words. -/
import Derived.Test.YtepeehjajhehfaaGreatDoorMA7
import Derived.Test.YtepeehjajhehfaaGreatDoorMA8
import Derived.Test.YtepeehjajhehfaaGreatDoorMA2
namespace Go.Proofs.YtepeehjajhehfaaGreatDoor
open Go.RowKit Go.PlainAid
set_option linter.unusedVariables false

/-- A header whose strings and records are no longer than any list and text may be. -/
def HFits (h : Hd) (rs : List (ByteArray × ByteArray)) : Prop := h.name.size ≤ 2147483647 ∧ h.link.size ≤ 2147483647 ∧ h.un.size ≤ 2147483647 ∧ h.gn.size ≤ 2147483647 ∧ RecsFit rs
def Fits3P (h : Hd) (rs : List (ByteArray × ByteArray)) (w : World) (e : Ending) (w' : World) : Prop := ∃ b : Bool, e = .returned (.bool b) ∧ (b = true → HFits h rs) ∧ Below w.heap.size w w'
set_option maxRecDepth 20000 in
set_option maxHeartbeats 1600000 in
theorem fits3 (h : Hd) (B : Nat) (rs : List (ByteArray × ByteArray)) (w : World) (hl : rs.length = h.rn) (hr : RC w B h.rA (recsV rs)) (hB : B ≤ w.heap.size) (hn : h.rn ≤ 9223372036854775807) :
    Calls Tryz.prog 5 #[h.ival] w (Fits3P h rs w) := by
  have HB0 : Hid (Blk (w.alloc (.cells h.iarr 26)) w.heap.size 26 h.icells) := Lib.hid (h.iblk w _)
  have HW0 : Hid (Below w.heap.size w (w.alloc (.cells h.iarr 26))) := Lib.hid ((Below.refl _ _).alloc (Nat.le_refl _) _)
  have HC : Hid (∀ w1, Below w.heap.size w w1 → Calls Tryz.prog 16 #[.slice h.rA h.rn h.rc] w1 (Fits4P rs w1)) := Lib.hid (fun w1 hb => fits4 h.rA h.rn h.rc B rs w1 hl (hr.below (hb.mono hB)) (Nat.le_trans hB hb.size) hn)
  unfold Hd.ival
  clear hl hr hn
  go_enter Tryz.func5, Tryz.ntmps5
  go_upto_region 1 with fail
  generalize w.alloc (.cells h.iarr 26) = w1 at HB0 HW0 ⊢
  have c1 : w1.cell? ⟨w.heap.size, 1, none⟩ = some (.string h.name) := HB0.out.cell 1
  have c2 : w1.cell? ⟨w.heap.size, 2, none⟩ = some (.string h.link) := HB0.out.cell 2
  have c7 : w1.cell? ⟨w.heap.size, 7, none⟩ = some (.string h.un) := HB0.out.cell 7
  have c8 : w1.cell? ⟨w.heap.size, 8, none⟩ = some (.string h.gn) := HB0.out.cell 8
  have c19 : w1.cell? ⟨w.heap.size, 19, none⟩ = some (.slice h.rA h.rn h.rc) := HB0.out.cell 19
  by_cases h1 : (2147483647 : Int) < (h.name.size : Int)
  · go_wp2
    go_ret
    exact ⟨false, rfl, (fun h => by cases h), HW0.out⟩
  by_cases h2 : (2147483647 : Int) < (h.link.size : Int)
  · go_wp2
    go_ret
    exact ⟨false, rfl, (fun h => by cases h), HW0.out⟩
  by_cases h3 : (2147483647 : Int) < (h.un.size : Int)
  · go_wp2
    go_ret
    exact ⟨false, rfl, (fun h => by cases h), HW0.out⟩
  by_cases h4 : (2147483647 : Int) < (h.gn.size : Int)
  · go_wp2
    go_ret
    exact ⟨false, rfl, (fun h => by cases h), HW0.out⟩
  have HS := Lib.hid (And.intro h1 (And.intro h2 (And.intro h3 h4)))
  go_wp2_with fail
  refine (HC.out w1 HW0.out).mono ?_
  rintro e w2 ⟨b, rfl, hb, hw⟩
  have HBB : Hid (b = true → HFits h rs) := Lib.hid (fun e => by
    obtain ⟨a1, a2, a3, a4⟩ := HS.out
    exact ⟨by omega, by omega, by omega, by omega, hb e⟩)
  have HW2 : Hid (Below w.heap.size w w2) := Lib.hid (HW0.out.trans (hw.mono HW0.out.size))
  clear hb hw
  cases b with
  | false =>
    go_wp2
    go_ret
    exact ⟨false, rfl, (fun h => by cases h), HW2.out⟩
  | true =>
    have HBT : Hid (HFits h rs) := Lib.hid (HBB.out rfl)
    go_wp2
    go_ret
    exact ⟨true, rfl, (fun _ => HBT.out), HW2.out⟩
end Go.Proofs.YtepeehjajhehfaaGreatDoor
namespace Go.Proofs.YtepeehjajhehfaaGreatDoor
open Go.RowKit Go.PlainAid Go.Maps Go.ChangeMaps Go.MapKept Go.WideMaps
set_option linter.unusedVariables false

theorem results_tmp5 {fn : Func} {t u v x y : Tmp} (h : fn.results = #[.tmp t, .tmp u, .tmp v, .tmp x, .tmp y]) (tmps : Array Value) (P : Program) (w : World) :
    (results fn tmps).run P w = .ok (.tuple #[tmps.getD t undef, tmps.getD u undef, tmps.getD v undef, tmps.getD x undef, tmps.getD y undef]) w := by
  simp [results, h]
/-- What ZZAllowed and impl.Allowed answer: E is the type of their records. -/
def ZalP (E : TypeId) (h : Hd) (mx an ax cn cx : Int) (R : List (ByteArray × ByteArray)) (w : World) (e : Ending) (w' : World) : Prop :=
  ((∃ A c, e = .returned (.tuple #[.bool false, .bool false, .bool false, .slice A 0 c, .bool false])) ∧ AllNo h mx an ax cn cx R ∧ Below w.heap.size w w') ∨
  ∃ u p g L v, e = .returned (.tuple #[.bool u, .bool p, .bool g, v, .bool true]) ∧ AllYes h mx an ax cn cx R u p g L ∧ w'.ownsRow w.heap.size E 2 v (tab L).length (recsV (tab L)) ∧ Below w.heap.size w w'
theorem BK.more {B C : Nat} {w w' : World} (h : BK B w) (hb : Below B w w') (hC : B ≤ C) : BK C w' := by
  obtain ⟨q, hq⟩ := h
  exact ⟨q, fun w2 h2 => hq w2 (hb.trans (h2.mono hC))⟩
theorem RMap.more {B C : Nat} {pm : Option Nat} {R : List (ByteArray × ByteArray)} {w : World} (h : RMap B pm R w) (hC : B ≤ C) : RMap C pm R w := by
  rcases h with h | ⟨q, nn, h1, h2, h3⟩
  · exact .inl h
  · exact .inr ⟨q, nn, h1, by omega, h3⟩
theorem RMap.below {B C : Nat} {pm : Option Nat} {R : List (ByteArray × ByteArray)} {w w' : World} (h : RMap B pm R w) (hb : Below C w w') (hC : B ≤ C) : RMap B pm R w' := by
  rcases h with h | ⟨q, nn, h1, h2, h3⟩
  · exact .inl h
  · exact .inr ⟨q, nn, h1, h2, ownsMap_below h3 hb (by omega)⟩
/-- What the header's times and records become. -/
def AlwP (h : Hd) (rs : List (ByteArray × ByteArray)) (w : World) (e : Ending) (w' : World) : Prop :=
  ∃ an ax cn cx, MayT h.ha h.as_ h.an an ax ∧ MayT h.hc h.cs h.cn cn cx ∧ ZalP 83 h (unx h.ms) an ax cn cx rs w e w'
theorem RMap.of_new {B : Nat} {pm : Option Nat} {rs : List (ByteArray × ByteArray)} {w : World} (h : NewMap B pm rs w) : RMap w.heap.size pm rs w := by
  rcases h with h | ⟨q, h1, _, _, h4⟩
  · exact .inl h
  · exact .inr ⟨q, _, h1, h4.lt, h4⟩
theorem may_rng {b : Bool} {s n an ax : Int} (h : MayT b s n an ax) (hn : b = true → 0 ≤ n ∧ n < 1000000000) : 0 ≤ an ∧ an < 1000000000 := by
  cases b with
  | true => obtain ⟨e1, _⟩ := h.1 rfl; rw [e1]; exact hn rfl
  | false => obtain ⟨e1, _⟩ := h.2 rfl; rw [e1]; omega
/-- impl.Allowed, whatever its argument is. -/
def AlwAt : Prop := ∀ (h : Hd) (B : Nat) (rs : List (ByteArray × ByteArray)) (w : World), h.Ok → rs.length = h.rn → RC w B h.rA (recsV rs) → B ≤ w.heap.size → HFits h rs → h.fm = 0 → Tab w → BK w.heap.size w →
  (0 ≤ h.mn ∧ h.mn < 1000000000) → (h.ha = true → 0 ≤ h.an ∧ h.an < 1000000000) → (h.hc = true → 0 ≤ h.cn ∧ h.cn < 1000000000) → ¬ (h.mn = 0 ∧ unx h.ms = 0) →
  Calls Tryz.prog 11 #[h.ival] w (AlwP h rs w)
/-- A whole struct stored into a cell row just made: the world behind it by name. -/
theorem wpList_store_newr {P : Program} {ops : Array Oper} {rest : List Oper} {o : Oper} {a : Act} (w1 : World) {Q : Exit → Act → World → Prop} (hgd : o.guard = none) (ty : TypeId) (x y : Operand) (ho : o.op = .store ty x y)
    (Z cells : Array Value) (hx : a.eval x = .pointer (some ⟨w1.heap.size, 0, none⟩)) (hy : a.eval y = .agg cells) (hi : (P.info? ty).map (·.size) = some cells.size)
    (hold : Z.size = cells.size) (h1 : cells.all (·.oneCell') = true)
    (h : ∀ w', w1.grownBy w' none → w'.heap[w1.heap.size]? = some (Obj.cells cells ty (0, 0)) → wpList P ops Q rest (a.put o.dst undef) w') : wpList P ops Q (o :: rest) a (w1.alloc (Obj.cells Z ty)) := by
  refine wpList_store_row hgd ty x y ho w1.heap.size cells hx hy ty Z (heap_alloc_new _ _) hi hold h1 (h _ ?_ ?_)
  · have g1 := World.grownBy_alloc w1 (Obj.cells Z ty) none
    have g2 := setRow_grown (w1.alloc (Obj.cells Z ty)) w1.heap.size cells
    exact ⟨g2.os.trans g1.os, g2.tape.trans g1.tape, g2.output.trans g1.output, Nat.le_trans g1.size g2.size, fun k hk hr => (g2.block k (Nat.lt_of_lt_of_le hk g1.size) (fun e => by injection e with e; omega)).trans (g1.block k hk hr)⟩
  · have h9 := setRow_blk (w1.alloc (Obj.cells Z ty)) w1.heap.size ty Z.toList cells.toList (by show _ = some (Obj.cells Z.toList.toArray ty (0, 0)); rw [Array.toArray_toList]; exact heap_alloc_new _ _)
    unfold Blk at h9
    rw [Array.toArray_toList] at h9
    exact h9
end Go.Proofs.YtepeehjajhehfaaGreatDoor
