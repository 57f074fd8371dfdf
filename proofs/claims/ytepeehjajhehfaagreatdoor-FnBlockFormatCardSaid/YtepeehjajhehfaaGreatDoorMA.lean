/- A header of package impl as a value and as a block; the measure of its strings and records (zzFits3, 4, 5). zzFits3. An argument that is a slice of structs of two strings, opened, and its bulk. An argument that is a header of package impl, opened. laws.records: its walk. laws.plain: its walk. -/
import Derived.Test.YtepeehjajhehfaaGreatDoorHd
import Derived.Test.YtepeehjajhehfaaGreatDoorRecs
import Derived.Test.YtepeehjajhehfaaGreatDoorRows
import Derived.ProofKit
import Derived.OpenShut
import Derived.Deep.Slices
import Derived.Deep.Matrix
import Derived.Deep.Grids
import Derived.ChangeSame
import Derived.Test.YtepeehjajhehfaaGreatDoorVp
namespace Go.Proofs.YtepeehjajhehfaaGreatDoor
open Go.RowKit Go.PlainAid
set_option linter.unusedVariables false

def Hd.icells (h : Hd) : List Value := [.int .u8 h.ty, .string h.name, .string h.link, .int .i64 h.size, .int .i64 h.mode, .int .i64 h.uid, .int .i64 h.gid, .string h.un, .string h.gn, .int .i64 h.ms, .int .i64 h.mn, .bool h.ha, .int .i64 h.as_, .int .i64 h.an, .bool h.hc, .int .i64 h.cs, .int .i64 h.cn, .int .i64 h.maj, .int .i64 h.min, .slice h.rA h.rn h.rc, .int .i64 h.fm]
def Hd.iarr (h : Hd) : Array Value := h.icells.toArray
def Hd.ival (h : Hd) : Value := .agg h.iarr
theorem Hd.isize_ (h : Hd) : (Tryz.prog.info? 26).map (·.size) = some h.iarr.size := by
  show _ = some 21
  kernel_rfl
theorem Hd.iblk (h : Hd) (w : World) (T : TypeId) : Blk (w.alloc (.cells h.iarr T)) w.heap.size T h.icells := Blk.new w T h.icells
def Fits5P (k v : ByteArray) (w : World) (e : Ending) (w' : World) : Prop := ∃ b : Bool, e = .returned (.bool b) ∧ (b = true ↔ (k.size ≤ 2147483647 ∧ v.size ≤ 2147483647)) ∧ Below w.heap.size w w'
set_option maxRecDepth 20000 in
set_option maxHeartbeats 800000 in
theorem fits5 (k v : ByteArray) (w : World) :
    Calls Tryz.prog 37 #[.agg #[.string k, .string v]] w (Fits5P k v w) := by
  have HB : ∀ T, Hid (Below w.heap.size w (w.alloc (.cells #[.string k, .string v] T))) := fun T => Lib.hid ((Below.refl _ _).alloc (Nat.le_refl _) _)
  by_cases h1 : k.size ≤ 2147483647
  · have h1' : ¬ (2147483647 : Int) < (k.size : Int) := by omega
    by_cases h2 : v.size ≤ 2147483647
    · have h2' : ¬ (2147483647 : Int) < (v.size : Int) := by omega
      have HH := Lib.hid (And.intro h1 h2)
      clear h1 h2
      go_enter Tryz.func37, Tryz.ntmps37
      go_wp2
      go_ret
      exact ⟨true, rfl, ⟨(fun _ => HH.out), (fun _ => rfl)⟩, (HB _).out⟩
    · have h2' : (2147483647 : Int) < (v.size : Int) := by omega
      have HH := Lib.hid h2
      clear h1 h2
      go_enter Tryz.func37, Tryz.ntmps37
      go_wp2
      go_ret
      exact ⟨false, rfl, ⟨(fun h => by cases h), (fun h => absurd h.2 HH.out)⟩, (HB _).out⟩
  · have h1' : (2147483647 : Int) < (k.size : Int) := by omega
    have HH := Lib.hid h1
    clear h1
    go_enter Tryz.func37, Tryz.ntmps37
    go_wp2
    go_ret
    exact ⟨false, rfl, ⟨(fun h => by cases h), (fun h => absurd h.1 HH.out)⟩, (HB _).out⟩
/-- The records are no longer than any list and text may be. -/
def RecsFit (rs : List (ByteArray × ByteArray)) : Prop := rs.length ≤ 2147483647 ∧ ∀ k, k < rs.length → (rk rs k).size ≤ 2147483647 ∧ (rv rs k).size ≤ 2147483647
def Fits4P (rs : List (ByteArray × ByteArray)) (w : World) (e : Ending) (w' : World) : Prop := ∃ b : Bool, e = .returned (.bool b) ∧ (b = true → RecsFit rs) ∧ Below w.heap.size w w'
set_option maxRecDepth 20000 in
set_option maxHeartbeats 1600000 in
theorem fits4 (A : Option Addr) (n c B : Nat) (rs : List (ByteArray × ByteArray)) (w : World) (hl : rs.length = n) (hr : RC w B A (recsV rs)) (hB : B ≤ w.heap.size) (hn : n ≤ 9223372036854775807) :
    Calls Tryz.prog 16 #[.slice A n c] w (Fits4P rs w) := by
  have HR := Lib.hid hr
  have HL := Lib.hid hl
  clear hr hl
  by_cases hbig : 2147483647 < n
  · have hbig' : (2147483647 : Int) < (n : Int) := by omega
    go_enter Tryz.func16, Tryz.ntmps16
    go_wp2
    go_ret
    exact ⟨false, rfl, (fun h => by cases h), Below.refl _ _⟩
  have hbig' : ¬ (2147483647 : Int) < (n : Int) := by omega
  go_enter Tryz.func16, Tryz.ntmps16
  go_wp2
  go_loopw [10] (fun i wr => ∃ k : Nat, k ≤ n ∧ i = .int .i64 k ∧ Hid (∀ j, j < k → (rk rs j).size ≤ 2147483647 ∧ (rv rs j).size ≤ 2147483647) ∧ Hid (Below w.heap.size w wr)) (fun i _ => n - (intOf i).toNat)
  case atStart => exact ⟨0, by omega, rfl, Lib.hid (fun j hj => by omega), Lib.hid (Below.refl _ _)⟩
  case round =>
    obtain ⟨k, hk, rfl, HK, HW⟩ := hrel
    by_cases hlt : k < n
    · obtain ⟨b, off, rfl, _, q1, q2⟩ := (HR.out.below (HW.out.mono hB)).rec_ (k := k) (by rw [HL.out]; exact hlt)
      have hk0 : (0 : Int) ≤ (k : Int) := by omega
      have hk1 : (k : Int) < (n : Int) := by omega
      obtain ⟨X, hX⟩ : ∃ X, rk rs k = X := ⟨_, rfl⟩
      obtain ⟨Y, hY⟩ : ∃ Y, rv rs k = Y := ⟨_, rfl⟩
      rw [hX] at q1
      rw [hY] at q2
      have HXX := Lib.hid hX
      have HYY := Lib.hid hY
      have HWA : Hid (Below w.heap.size w (wr.alloc (.cells #[.string X, .string Y] 83))) := Lib.hid (HW.out.alloc HW.out.size _)
      clear hX hY
      go_wp2_with fail
      refine (fits5 X Y _).mono ?_
      rintro e w2 ⟨b2, rfl, hb2, hw2⟩
      have HW2 : Hid (Below w.heap.size w w2) := Lib.hid (HWA.out.trans (hw2.mono HWA.out.size))
      have HB2 := Lib.hid hb2
      clear hb2 hw2
      cases b2 with
      | false =>
        go_wp2
        go_ret
        exact ⟨false, rfl, (fun h => by cases h), HW2.out⟩
      | true =>
        have HN : Hid (∀ j, j < k + 1 → (rk rs j).size ≤ 2147483647 ∧ (rv rs j).size ≤ 2147483647) := Lib.hid (fun j hj => by
          by_cases h : j < k
          · exact HK.out j h
          · obtain rfl : j = k := by omega
            rw [HXX.out, HYY.out]
            exact HB2.out.1 rfl)
        go_wp2
        go_roundw
        case rel => exact ⟨k + 1, by omega, by go_num, HN, HW2⟩
        case measure => simp [intOf]; omega
    · obtain rfl : k = n := by omega
      have HF : Hid (RecsFit rs) := Lib.hid ⟨by rw [HL.out]; omega, fun j hj => HK.out j (by rw [← HL.out]; exact hj)⟩
      go_wp2
      go_ret
      exact ⟨true, rfl, (fun _ => HF.out), HW.out⟩
end Go.Proofs.YtepeehjajhehfaaGreatDoor
namespace Go.Proofs.YtepeehjajhehfaaGreatDoor
open Go.RowKit Go.PlainAid
set_option linter.unusedVariables false

/-- A header whose strings and records are no longer than any list and text may be. -/
def HFits (h : Hd) (rs : List (ByteArray × ByteArray)) : Prop := h.name.size ≤ 2147483647 ∧ h.link.size ≤ 2147483647 ∧ h.un.size ≤ 2147483647 ∧ h.gn.size ≤ 2147483647 ∧ RecsFit rs
def Fits3P (h : Hd) (rs : List (ByteArray × ByteArray)) (w : World) (e : Ending) (w' : World) : Prop := ∃ b : Bool, e = .returned (.bool b) ∧ (b = true → HFits h rs) ∧ Below w.heap.size w w'
set_option maxRecDepth 20000 in
set_option maxHeartbeats 1600000 in
theorem fits3 (h : Hd) (B : Nat) (rs : List (ByteArray × ByteArray)) (w : World) (hl : rs.length = h.rn) (hr : RC w B h.rA (recsV rs)) (hB : B ≤ w.heap.size) (hn : h.rn ≤ 9223372036854775807) :
    Calls Tryz.prog 5 #[h.ival] w (Fits3P h rs w) := by
  have HB0 : Hid (Blk (w.alloc (.cells h.iarr 26)) w.heap.size 26 h.icells) := Lib.hid (h.iblk w _)
  have HW0 : Hid (Below w.heap.size w (w.alloc (.cells h.iarr 26))) := Lib.hid ((Below.refl _ _).alloc (Nat.le_refl _) _)
  have HC : Hid (∀ w1, Below w.heap.size w w1 → Calls Tryz.prog 16 #[.slice h.rA h.rn h.rc] w1 (Fits4P rs w1)) := Lib.hid (fun w1 hb => fits4 h.rA h.rn h.rc B rs w1 hl (hr.below (hb.mono hB)) (Nat.le_trans hB hb.size) hn)
  unfold Hd.ival
  clear hl hr hn
  go_enter Tryz.func5, Tryz.ntmps5
  go_upto_region 1 with fail
  generalize w.alloc (.cells h.iarr 26) = w1 at HB0 HW0 ⊢
  have c1 : w1.cell? ⟨w.heap.size, 1, none⟩ = some (.string h.name) := HB0.out.cell 1
  have c2 : w1.cell? ⟨w.heap.size, 2, none⟩ = some (.string h.link) := HB0.out.cell 2
  have c7 : w1.cell? ⟨w.heap.size, 7, none⟩ = some (.string h.un) := HB0.out.cell 7
  have c8 : w1.cell? ⟨w.heap.size, 8, none⟩ = some (.string h.gn) := HB0.out.cell 8
  have c19 : w1.cell? ⟨w.heap.size, 19, none⟩ = some (.slice h.rA h.rn h.rc) := HB0.out.cell 19
  by_cases h1 : (2147483647 : Int) < (h.name.size : Int)
  · go_wp2
    go_ret
    exact ⟨false, rfl, (fun h => by cases h), HW0.out⟩
  by_cases h2 : (2147483647 : Int) < (h.link.size : Int)
  · go_wp2
    go_ret
    exact ⟨false, rfl, (fun h => by cases h), HW0.out⟩
  by_cases h3 : (2147483647 : Int) < (h.un.size : Int)
  · go_wp2
    go_ret
    exact ⟨false, rfl, (fun h => by cases h), HW0.out⟩
  by_cases h4 : (2147483647 : Int) < (h.gn.size : Int)
  · go_wp2
    go_ret
    exact ⟨false, rfl, (fun h => by cases h), HW0.out⟩
  have HS := Lib.hid (And.intro h1 (And.intro h2 (And.intro h3 h4)))
  go_wp2_with fail
  refine (HC.out w1 HW0.out).mono ?_
  rintro e w2 ⟨b, rfl, hb, hw⟩
  have HBB : Hid (b = true → HFits h rs) := Lib.hid (fun e => by
    obtain ⟨a1, a2, a3, a4⟩ := HS.out
    exact ⟨by omega, by omega, by omega, by omega, hb e⟩)
  have HW2 : Hid (Below w.heap.size w w2) := Lib.hid (HW0.out.trans (hw.mono HW0.out.size))
  clear hb hw
  cases b with
  | false =>
    go_wp2
    go_ret
    exact ⟨false, rfl, (fun h => by cases h), HW2.out⟩
  | true =>
    have HBT : Hid (HFits h rs) := Lib.hid (HBB.out rfl)
    go_wp2
    go_ret
    exact ⟨true, rfl, (fun _ => HBT.out), HW2.out⟩
end Go.Proofs.YtepeehjajhehfaaGreatDoor
namespace Go.Proofs.YtepeehjajhehfaaGreatDoor
open Go.RowKit Go.ChangeShapes Go.WideShapes Go.Deep

theorem list_of_each {α : Type} (d : α) : ∀ (n : Nat) (Q : Nat → α → Prop), (∀ i, i < n → ∃ p, Q i p) → ∃ ps : List α, ps.length = n ∧ ∀ i, i < n → Q i (ps.getD i d)
  | 0, _, _ => ⟨[], rfl, fun i hi => by omega⟩
  | n + 1, Q, h => by
    obtain ⟨ps, hl, hq⟩ := list_of_each d n Q (fun i hi => h i (by omega))
    obtain ⟨p, hp⟩ := h n (by omega)
    refine ⟨ps ++ [p], by simp [hl], fun i hi => ?_⟩
    by_cases h1 : i < n
    · have : (ps ++ [p]).getD i d = ps.getD i d := by simp [List.getD, List.getElem?_append_left (show i < ps.length by omega)]
      rw [this]
      exact hq i h1
    · obtain rfl : i = n := by omega
      have : (ps ++ [p]).getD i d = p := by simp [List.getD, hl]
      rw [this]
      exact hp
/-- The bulk of records. -/
def bulkR (rs : List (ByteArray × ByteArray)) : Nat := (rs.map fun r => r.1.size + r.2.size + 3).sum
theorem bulk_slice {H : Type} (elems spare : List (DataW H)) : Rows.uptoBulkAll elems + 1 ≤ Rows.uptoBulk (.slice elems spare) := by
  simp only [Rows.uptoBulk]
  omega
theorem bulk_recs {H : Type} : ∀ (rs : List (ByteArray × ByteArray)) (D : List (DataW H)), rs.map (fun r => DataW.agg [.lit (.string r.1.data.toList), .lit (.string r.2.data.toList)]) = D → bulkR rs ≤ Rows.uptoBulkAll D
  | [], D, h => by subst h; simp [bulkR]
  | r :: rs, D, h => by
    subst h
    have ih := bulk_recs (H := H) rs _ rfl
    have e1 : r.1.data.toList.length = r.1.size := (Lib.size_eq r.1).symm
    have e2 : r.2.data.toList.length = r.2.size := (Lib.size_eq r.2).symm
    unfold bulkR at ih ⊢
    simp only [List.map_cons, List.sum_cons, Rows.uptoBulkAll, Rows.uptoBulk, e1, e2]
    omega

section
variable {H : Type} {enc : TypeId × Value → H} {P : Program} {w : World} {base : Nat} {spare : Nat → Bool} {held : Bool}
theorem recs_of_trod {t e : TypeId} {f0 f1 : Field} {fuel : Nat} {a : Option Addr} {len cap : Nat} {x : DataW H × List MemPlace} (ht : P.underlying t = some (.slice e)) (he : P.underlying e = some (.struct #[f0, f1]))
    (h0 : P.underlying f0.type = some .string) (h1 : P.underlying f1.type = some .string) (ho0 : f0.offset = 0) (ho1 : f1.offset = 1) (hc0 : P.cellsOf f0.type = 1) (hc1 : P.cellsOf f1.type = 1) (hC : P.cellsOf e = 2)
    (h : DataW.trod enc P w base spare held fuel t (Value.slice a len cap).cells.toList = some x) :
    ∃ rs : List (ByteArray × ByteArray), rs.length = len ∧ RC w w.heap.size a (recsV rs) ∧ len ≤ cap ∧ cap ≤ maxLen ∧ bulkR rs ≤ Rows.uptoBulk x.1 := by
  rcases open_slice ht h with ⟨h1, rfl⟩ | ⟨ad, l, c, m, n, D, Pl, hcs, _, hl, hm, hmm, rfl, hi⟩
  · simp [Value.cells] at h1
    obtain ⟨rfl, rfl, rfl⟩ := h1
    exact ⟨[], rfl, RC.nil_, Nat.le_refl _, by decide, by simp [bulkR]⟩
  · simp [Value.cells] at hcs
    obtain ⟨rfl, rfl, rfl⟩ := hcs
    have hlm : len ≤ m := by rw [hmm]; split <;> omega
    have each : ∀ i, i < len → ∃ p : ByteArray × ByteArray, w.cell? ((ad.add (i * 2)).add 0) = some (.string p.1) ∧ w.cell? ((ad.add (i * 2)).add 1) = some (.string p.2) ∧ D i = .agg [.lit (.string p.1.data.toList), .lit (.string p.2.data.toList)] := by
      intro i hil
      obtain ⟨cs', hc, htr⟩ := hi i (by omega)
      rw [hC] at hc
      obtain ⟨_, hcl, hat⟩ := World.cells?_some hc
      obtain ⟨xs, n', _, hx, _, hlen, hg⟩ := DataW.trod_struct he htr
      have g0 := hg 0 f0 rfl
      have g1 := hg 1 f1 rfl
      rw [ho0, hc0] at g0
      rw [ho1, hc1] at g1
      match cs', hcl, xs, hlen with
      | [c0, c1], _, [y0, y1], _ =>
        simp at g0 g1
        obtain ⟨s0, e0, d0, _⟩ := DataW.trod_string h0 g0
        obtain ⟨s1, e1, d1, _⟩ := DataW.trod_string h1 g1
        simp at e0 e1
        refine ⟨(s0, s1), ?_, ?_, ?_⟩
        · rw [hat 0 (by omega), e0]; rfl
        · rw [hat 1 (by omega), e1]; rfl
        · have := congrArg Prod.fst hx
          rw [d0, d1] at this
          exact this
    obtain ⟨ps, hpl, hq⟩ := list_of_each (⟨#[]⟩, ⟨#[]⟩) len _ each
    refine ⟨ps, hpl, fun hpos => ?_, hl, hm, ?_⟩
    · rw [length_recsV] at hpos
      obtain ⟨b, off, spot⟩ := ad
      have q0 := (hq 0 (by omega)).1
      have hs : spot = none := by simpa [Addr.add] using World.cell?_spot q0
      subst hs
      refine ⟨b, off, rfl, ?_, fun i v hv => ?_⟩
      · have := block_lt_of_cell q0
        simpa [Addr.add] using this
      · have hi2 : i < ps.length * 2 := by
          have := (List.getElem?_eq_some_iff.1 hv).1
          rwa [length_recsV] at this
        obtain ⟨k, hk⟩ : ∃ k, i = k * 2 ∨ i = k * 2 + 1 := ⟨i / 2, by omega⟩
        have ek : ps.getD k (⟨#[]⟩, ⟨#[]⟩) = (rk ps k, rv ps k) := by simp [rk, rv]
        rcases hk with rfl | rfl
        · rw [recsV_get1 ps k (by omega)] at hv
          obtain rfl := Option.some.inj hv
          have := (hq k (by omega)).1
          rw [ek] at this
          simp only [Addr.add_lit, Nat.add_zero] at this
          exact this
        · rw [recsV_get2 ps k (by omega)] at hv
          obtain rfl := Option.some.inj hv
          have := (hq k (by omega)).2.1
          rw [ek] at this
          simp only [Addr.add_lit] at this
          rw [← Nat.add_assoc]
          exact this
    · have hD : ps.map (fun r => DataW.agg (H := H) [.lit (.string r.1.data.toList), .lit (.string r.2.data.toList)]) = (List.range len).map D := by
        apply List.ext_getElem (by simp [hpl])
        intro i hi' hi''
        simp only [List.length_map] at hi'
        have := (hq i (by omega)).2.2
        rw [show ps.getD i (⟨#[]⟩, ⟨#[]⟩) = ps[i] by simp [List.getD, hi']] at this
        simp [this]
      have h3 := bulk_recs ps _ hD
      have h4 := bulk_slice (H := H) ((List.range len).map D) ((List.range (m - len)).map fun j => D (len + j))
      exact Nat.le_trans h3 (Nat.le_trans (Nat.le_succ _) h4)
end
end Go.Proofs.YtepeehjajhehfaaGreatDoor
namespace Go.Proofs.YtepeehjajhehfaaGreatDoor
open Go.RowKit Go.ChangeShapes Go.WideShapes Go.Deep
set_option linter.unusedVariables false

section
variable {H : Type} {enc : TypeId × Value → H} {P : Program} {w : World} {base : Nat} {spare : Nat → Bool} {held : Bool}
theorem one_cell {cs : List Value} {o : Nat} {v : Value} (h : (cs.drop o).take 1 = [v]) : cs[o]? = some v := by
  have h1 : ((cs.drop o).take 1)[0]? = some v := by rw [h]; rfl
  rw [List.getElem?_take, if_pos (by omega), List.getElem?_drop] at h1
  simpa using h1
theorem two_cells {cs : List Value} {o : Nat} {v u : Value} (h : (cs.drop o).take 2 = [v, u]) : cs[o]? = some v ∧ cs[o + 1]? = some u := by
  have h1 : ((cs.drop o).take 2)[0]? = some v := by rw [h]; rfl
  have h2 : ((cs.drop o).take 2)[1]? = some u := by rw [h]; rfl
  rw [List.getElem?_take, if_pos (by omega), List.getElem?_drop] at h1 h2
  exact ⟨by simpa using h1, h2⟩
/-- What a struct's data say of its fields, one by one. -/
def Flds (H : Type) (enc : TypeId × Value → H) (P : Program) (w : World) (base : Nat) (spare : Nat → Bool) (held : Bool) (n : Nat) (cs : List Value) (fs : Array Field) : Prop :=
  ∀ (i : Nat) (f : Field), fs[i]? = some f → ∃ y, DataW.trod enc P w base spare held n f.type ((cs.drop f.offset).take (P.cellsOf f.type)) = some y
theorem flds_of {fs : Array Field} {t : TypeId} {fuel : Nat} {cs : List Value} {x : DataW H × List MemPlace} (ht : P.underlying t = some (.struct fs)) (h : DataW.trod enc P w base spare held fuel t cs = some x) : ∃ n, Flds H enc P w base spare held n cs fs ∧ cs.length = P.cellsOf t := by
  obtain ⟨xs, n, _, _, hl, hlen, hg⟩ := DataW.trod_struct ht h
  refine ⟨n, fun i f hf => ?_, hl⟩
  have hi : i < xs.length := by rw [hlen]; exact (Array.getElem?_eq_some_iff.1 hf).1
  exact ⟨xs[i], by rw [hg i f hf]; exact List.getElem?_eq_getElem hi⟩
theorem Flds.str {fs : Array Field} {n : Nat} {cs : List Value} (hg : Flds H enc P w base spare held n cs fs) (i : Nat) (f : Field) (hf : fs[i]? = some f) (hT : P.underlying f.type = some .string) (hc : P.cellsOf f.type = 1) : ∃ s : ByteArray, cs[f.offset]? = some (.string s) ∧ s.size ≤ maxLen := by
  obtain ⟨y, hy⟩ := hg i f hf
  rw [hc] at hy
  obtain ⟨s, e, _, hs⟩ := DataW.trod_string hT hy
  exact ⟨s, one_cell e, hs⟩
theorem Flds.num {fs : Array Field} {n : Nat} {cs : List Value} {k : IntKind} (hg : Flds H enc P w base spare held n cs fs) (i : Nat) (f : Field) (hf : fs[i]? = some f) (hT : P.underlying f.type = some (.int k)) (hc : P.cellsOf f.type = 1) : ∃ m : Int, cs[f.offset]? = some (.int k m) ∧ (Lit.int k m).wf = true := by
  obtain ⟨y, hy⟩ := hg i f hf
  rw [hc] at hy
  obtain ⟨s, e, _, hs⟩ := DataW.trod_int hT hy
  exact ⟨s, one_cell e, hs⟩
theorem Flds.boo {fs : Array Field} {n : Nat} {cs : List Value} (hg : Flds H enc P w base spare held n cs fs) (i : Nat) (f : Field) (hf : fs[i]? = some f) (hT : P.underlying f.type = some .bool) (hc : P.cellsOf f.type = 1) : ∃ b : Bool, cs[f.offset]? = some (.bool b) := by
  obtain ⟨y, hy⟩ := hg i f hf
  rw [hc] at hy
  obtain ⟨s, e, _⟩ := DataW.trod_bool hT hy
  exact ⟨s, one_cell e⟩
theorem Flds.time {fs : Array Field} {n : Nat} {cs : List Value} {f0 f1 : Field} (hg : Flds H enc P w base spare held n cs fs) (i : Nat) (f : Field) (hf : fs[i]? = some f) (hT : P.underlying f.type = some (.struct #[f0, f1])) (hc : P.cellsOf f.type = 2) (h0 : P.underlying f0.type = some (.int .i64)) (h1 : P.underlying f1.type = some (.int .i64)) (o0 : f0.offset = 0) (o1 : f1.offset = 1) (c0 : P.cellsOf f0.type = 1) (c1 : P.cellsOf f1.type = 1) : ∃ a b : Int, cs[f.offset]? = some (.int .i64 a) ∧ cs[f.offset + 1]? = some (.int .i64 b) ∧ (Lit.int .i64 a).wf = true ∧ (Lit.int .i64 b).wf = true := by
  obtain ⟨y, hy⟩ := hg i f hf
  obtain ⟨m, hg', hl⟩ := flds_of hT hy
  obtain ⟨a, ha, wa⟩ := hg'.num 0 f0 rfl h0 c0
  obtain ⟨b, hb, wb⟩ := hg'.num 1 f1 rfl h1 c1
  rw [o0] at ha
  rw [o1] at hb
  rw [hc] at ha hb
  rw [List.getElem?_take, if_pos (by omega), List.getElem?_drop] at ha hb
  exact ⟨a, b, by simpa using ha, hb, wa, wb⟩
end
/-- The numbers of a header that is an argument are such, and its strings no longer than any is. -/
structure Hd.In (h : Hd) : Prop where
  ty : 0 ≤ h.ty ∧ h.ty ≤ 255
  size : -9223372036854775808 ≤ h.size ∧ h.size ≤ 9223372036854775807
  mode : -9223372036854775808 ≤ h.mode ∧ h.mode ≤ 9223372036854775807
  uid : -9223372036854775808 ≤ h.uid ∧ h.uid ≤ 9223372036854775807
  gid : -9223372036854775808 ≤ h.gid ∧ h.gid ≤ 9223372036854775807
  ms : -9223372036854775808 ≤ h.ms ∧ h.ms ≤ 9223372036854775807
  mn : -9223372036854775808 ≤ h.mn ∧ h.mn ≤ 9223372036854775807
  as_ : -9223372036854775808 ≤ h.as_ ∧ h.as_ ≤ 9223372036854775807
  an : -9223372036854775808 ≤ h.an ∧ h.an ≤ 9223372036854775807
  cs : -9223372036854775808 ≤ h.cs ∧ h.cs ≤ 9223372036854775807
  cn : -9223372036854775808 ≤ h.cn ∧ h.cn ≤ 9223372036854775807
  maj : -9223372036854775808 ≤ h.maj ∧ h.maj ≤ 9223372036854775807
  min : -9223372036854775808 ≤ h.min ∧ h.min ≤ 9223372036854775807
  fm : -9223372036854775808 ≤ h.fm ∧ h.fm ≤ 9223372036854775807
theorem Hd.In.ok {h : Hd} {rs : List (ByteArray × ByteArray)} (k : h.In) (q : HFits h rs) : h.Ok := by
  obtain ⟨q1, q2, q3, q4, _⟩ := q
  exact { ty := k.ty, size := k.size, mode := k.mode, uid := k.uid, gid := k.gid, ms := k.ms, mn := k.mn, as_ := k.as_, an := k.an, cs := k.cs, cn := k.cn, maj := k.maj, min := k.min, fm := k.fm, name := by omega, link := by omega, un := by omega, gn := by omega }
theorem i64_bd {a : Int} (h : (Lit.int .i64 a).wf = true) : -9223372036854775808 ≤ a ∧ a ≤ 9223372036854775807 := by
  have e1 : IntKind.i64.min = -9223372036854775808 := rfl
  have e2 : IntKind.i64.max = 9223372036854775807 := rfl
  simp [Lit.wf] at h
  omega
theorem u8_bd {a : Int} (h : (Lit.int .u8 a).wf = true) : 0 ≤ a ∧ a ≤ 255 := by
  have e1 : IntKind.u8.min = 0 := rfl
  have e2 : IntKind.u8.max = 255 := rfl
  simp [Lit.wf] at h
  omega
set_option maxHeartbeats 1600000 in
theorem hdr_of_trod {H : Type} {enc : TypeId × Value → H} {w : World} {base : Nat} {spare : Nat → Bool} {held : Bool} {fuel : Nat} {cs : List Value} {x : DataW H × List MemPlace} (h : DataW.trod enc Tryz.prog w base spare held fuel 26 cs = some x) :
    ∃ (h : Hd) (rs : List (ByteArray × ByteArray)), cs = h.icells ∧ h.In ∧ rs.length = h.rn ∧ RC w w.heap.size h.rA (recsV rs) ∧ h.rn ≤ h.rc ∧ h.rc ≤ maxLen := by
  obtain ⟨n, hg, hl⟩ := flds_of Tryz.underlying26 h
  have hC : Tryz.prog.cellsOf 26 = 21 := by kernel_rfl
  rw [hC] at hl
  obtain ⟨ty, e0, f0⟩ := hg.num 0 _ rfl Tryz.underlying5 (by kernel_rfl)
  obtain ⟨name, e1, _⟩ := hg.str 1 _ rfl Tryz.underlying9 (by kernel_rfl)
  obtain ⟨link, e2, _⟩ := hg.str 2 _ rfl Tryz.underlying9 (by kernel_rfl)
  obtain ⟨size, e3, f3⟩ := hg.num 3 _ rfl Tryz.underlying2 (by kernel_rfl)
  obtain ⟨mode, e4, f4⟩ := hg.num 4 _ rfl Tryz.underlying2 (by kernel_rfl)
  obtain ⟨uid, e5, f5⟩ := hg.num 5 _ rfl Tryz.underlying3 (by kernel_rfl)
  obtain ⟨gid, e6, f6⟩ := hg.num 6 _ rfl Tryz.underlying3 (by kernel_rfl)
  obtain ⟨un, e7, _⟩ := hg.str 7 _ rfl Tryz.underlying9 (by kernel_rfl)
  obtain ⟨gn, e8, _⟩ := hg.str 8 _ rfl Tryz.underlying9 (by kernel_rfl)
  obtain ⟨ms, mn, e9, e10, f9, f10⟩ := hg.time 9 _ rfl Tryz.underlying23 (by kernel_rfl) Tryz.underlying2 Tryz.underlying2 rfl rfl (by kernel_rfl) (by kernel_rfl)
  obtain ⟨ha, e11⟩ := hg.boo 10 _ rfl Tryz.underlying4 (by kernel_rfl)
  obtain ⟨as_, an, e12, e13, f12, f13⟩ := hg.time 11 _ rfl Tryz.underlying23 (by kernel_rfl) Tryz.underlying2 Tryz.underlying2 rfl rfl (by kernel_rfl) (by kernel_rfl)
  obtain ⟨hc, e14⟩ := hg.boo 12 _ rfl Tryz.underlying4 (by kernel_rfl)
  obtain ⟨csx, cn, e15, e16, f15, f16⟩ := hg.time 13 _ rfl Tryz.underlying23 (by kernel_rfl) Tryz.underlying2 Tryz.underlying2 rfl rfl (by kernel_rfl) (by kernel_rfl)
  obtain ⟨maj, e17, f17⟩ := hg.num 14 _ rfl Tryz.underlying2 (by kernel_rfl)
  obtain ⟨min, e18, f18⟩ := hg.num 15 _ rfl Tryz.underlying2 (by kernel_rfl)
  obtain ⟨y, hy⟩ := hg 16 _ rfl
  have hc1 : Tryz.prog.cellsOf 24 = 1 := by kernel_rfl
  have hy2 : DataW.trod enc Tryz.prog w base spare held n 24 ((cs.drop 19).take 1) = some y := by rw [← hc1]; exact hy
  obtain ⟨rA, rn, rc, e19'⟩ : ∃ a l c, (cs.drop 19).take 1 = [.slice a l c] := by
    rcases DataW.trod_slice Tryz.underlying24 hy2 with ⟨e, _⟩ | ⟨a, l, c, _, _, _, _, e, _⟩
    · exact ⟨_, _, _, e⟩
    · exact ⟨_, _, _, e⟩
  have e19 := one_cell e19'
  rw [e19'] at hy2
  obtain ⟨rs, hrl, hrr, hrc, hrm, _⟩ := recs_of_trod (a := rA) (len := rn) (cap := rc) Tryz.underlying24 Tryz.underlying83 Tryz.underlying9 Tryz.underlying9 rfl rfl (by kernel_rfl) (by kernel_rfl) (by kernel_rfl) hy2
  obtain ⟨fm, e20, f20⟩ := hg.num 17 _ rfl Tryz.underlying3 (by kernel_rfl)
  refine ⟨⟨ty, name, link, size, mode, uid, gid, un, gn, ms, mn, ha, hc, as_, an, csx, cn, maj, min, rA, rn, rc, fm⟩, rs, ?_, ⟨u8_bd f0, i64_bd f3, i64_bd f4, i64_bd f5, i64_bd f6, i64_bd f9, i64_bd f10, i64_bd f12, i64_bd f13, i64_bd f15, i64_bd f16, i64_bd f17, i64_bd f18, i64_bd f20⟩, hrl, hrr, hrc, hrm⟩
  apply List.ext_getElem?
  intro i
  match i with
  | 0 => exact e0
  | 1 => exact e1
  | 2 => exact e2
  | 3 => exact e3
  | 4 => exact e4
  | 5 => exact e5
  | 6 => exact e6
  | 7 => exact e7
  | 8 => exact e8
  | 9 => exact e9
  | 10 => exact e10
  | 11 => exact e11
  | 12 => exact e12
  | 13 => exact e13
  | 14 => exact e14
  | 15 => exact e15
  | 16 => exact e16
  | 17 => exact e17
  | 18 => exact e18
  | 19 => exact e19
  | 20 => exact e20
  | i + 21 => rw [List.getElem?_eq_none (by omega), List.getElem?_eq_none (by show 21 ≤ i + 21; omega)]
end Go.Proofs.YtepeehjajhehfaaGreatDoor
namespace Go.Proofs.YtepeehjajhehfaaGreatDoor
open Go.RowKit Go.PlainAid
set_option linter.unusedVariables false

theorem srecs0 : (Tryz.prog.info? 60).map (fun i => (i.zero, i.size, i.bytes)) = some (some (.agg #[.string ⟨#[]⟩, .string ⟨#[]⟩]), 2, 32) := by kernel_rfl
set_option maxRecDepth 20000 in
set_option maxHeartbeats 1600000 in
/-- laws.records: a copy. -/
theorem lawRecords (A : Option Addr) (n c B : Nat) (l : List (ByteArray × ByteArray)) (w : World) (hn : l.length = n) (hr : RC w B A (recsV l)) (hB : B ≤ w.heap.size) (hl : n ≤ 2147483647) :
    Calls Tryz.prog 13 #[.slice A n c] w (MadeR 60 n l w) := by
  have HR := Lib.hid hr
  have HN := Lib.hid hn
  clear hr hn
  go_enter Tryz.func13, Tryz.ntmps13
  go_wp2
  go_loopw [3, 8] (fun v i wr => ∃ k : Nat, k ≤ n ∧ i = .int .i64 k ∧ Hid (wr.ownsRow w.heap.size 60 2 v k (recsV (l.take k))) ∧ Hid (Below w.heap.size w wr)) (fun _ i _ => n - (intOf i).toNat)
  case atStart => exact ⟨0, by omega, rfl, Lib.hid (World.ownsRow_nil _ _ _ _), Lib.hid (Below.refl _ _)⟩
  case round =>
    obtain ⟨k, hk, rfl, hO, hW⟩ := hrel
    obtain ⟨A', c', rfl, _, _, _⟩ := own_form hO.out
    by_cases hlt : k < n
    · obtain ⟨b, off, rfl, _, hc1, hc2⟩ := (HR.out.below (hW.out.mono hB)).rec_ (k := k) (by rw [HN.out]; exact hlt)
      have HB2 := Lib.hid (((hW.out.alloc (o := .cells #[.string (rk l k), .string (rv l k)] 83) hW.out.size).alloc (o := .cells #[.string (rk l k), .string (rv l k)] 60) (by have := hW.out.size; simp; omega)))
      have HP := Lib.hid (recsV_take l k (by rw [HN.out]; exact hlt))
      go_wp2_with (at_builtin; refine wpList_append_rc (o := ⟨some 19, _, _, _, _, _⟩) _ rfl (.tmp 12) (.tmp 18) _ rfl w.heap.size 60 _ 2 32 Tryz.underlying30 srecs0 rfl (by omega) _ k _ rfl ((hO.out.alloc _).alloc _) _ 1 1 _ _ rfl rfl (rc_new2 _ _ _ _) (two_strs _ _) (by omega) (by omega) (by have := hW.out.size; simp; omega) ?_)
      intro v' w1 h1 h2 h3
      have H1 : Hid (w1.ownsRow w.heap.size 60 2 v' (k + 1) (recsV (l.take (k + 1)))) := Lib.hid (by rw [HP.out]; exact h1.out)
      have H2 := Lib.hid (HB2.out.grown h2.out (by have := hW.out.size; simp; omega) (fun g hg => (hO.out.lt g hg).1))
      clear h1 h2 h3
      go_wp2
      go_roundw
      case rel => exact ⟨k + 1, by omega, by go_num, H1, H2⟩
      case measure => simp [intOf]; omega
    · obtain rfl : k = n := by omega
      have HO2 : Hid (wr.ownsRow w.heap.size 60 2 (.slice A' k c') k (recsV l)) := Lib.hid (by have h := hO.out; rw [List.take_of_length_le (by rw [HN.out]; exact Nat.le_refl _)] at h; exact h)
      go_wp2
      go_ret
      exact ⟨_, rfl, HO2.out, hW.out⟩

end Go.Proofs.YtepeehjajhehfaaGreatDoor
namespace Go.Proofs.YtepeehjajhehfaaGreatDoor
open Go.RowKit Go.PlainAid
set_option linter.unusedVariables false

/-- What stands while plain reads its argument: the argument's cells, a row for the result. -/
def PlS (h : Hd) (H : Nat) (w w' : World) : Prop := w'.cell? ⟨H, 0, none⟩ = some (.int .u8 h.ty) ∧ w'.cell? ⟨H, 1, none⟩ = some (.string h.name) ∧ w'.cell? ⟨H, 2, none⟩ = some (.string h.link) ∧ w'.cell? ⟨H, 3, none⟩ = some (.int .i64 h.size) ∧ w'.cell? ⟨H, 4, none⟩ = some (.int .i64 h.mode) ∧ w'.cell? ⟨H, 5, none⟩ = some (.int .i64 h.uid) ∧ w'.cell? ⟨H, 6, none⟩ = some (.int .i64 h.gid) ∧ w'.cell? ⟨H, 7, none⟩ = some (.string h.un) ∧ w'.cell? ⟨H, 8, none⟩ = some (.string h.gn) ∧ w'.cell? ⟨H, 9, none⟩ = some (.int .i64 h.ms) ∧ w'.cell? ⟨H, 10, none⟩ = some (.int .i64 h.mn) ∧ w'.cell? ⟨H, 11, none⟩ = some (.bool h.ha) ∧ w'.cell? ⟨H, 12, none⟩ = some (.int .i64 h.as_) ∧ w'.cell? ⟨H, 13, none⟩ = some (.int .i64 h.an) ∧ w'.cell? ⟨H, 14, none⟩ = some (.bool h.hc) ∧ w'.cell? ⟨H, 15, none⟩ = some (.int .i64 h.cs) ∧ w'.cell? ⟨H, 16, none⟩ = some (.int .i64 h.cn) ∧ w'.cell? ⟨H, 17, none⟩ = some (.int .i64 h.maj) ∧ w'.cell? ⟨H, 18, none⟩ = some (.int .i64 h.min) ∧ w'.cell? ⟨H, 19, none⟩ = some (.slice h.rA h.rn h.rc) ∧ w'.cell? ⟨H, 20, none⟩ = some (.int .i64 h.fm) ∧ (∃ r : List Value, r.length = 21 ∧ Blk w' (H + 1) 32 r) ∧ Blk w' H 26 h.icells ∧ Below w.heap.size w w'
theorem PlS.of {h : Hd} {H : Nat} {w w' : World} (hb : Blk w' H 26 h.icells) (hr : ∃ r : List Value, r.length = 21 ∧ Blk w' (H + 1) 32 r) (hw : Below w.heap.size w w') : PlS h H w w' :=
  ⟨hb.cell 0, hb.cell 1, hb.cell 2, hb.cell 3, hb.cell 4, hb.cell 5, hb.cell 6, hb.cell 7, hb.cell 8, hb.cell 9, hb.cell 10, hb.cell 11, hb.cell 12, hb.cell 13, hb.cell 14, hb.cell 15, hb.cell 16, hb.cell 17, hb.cell 18, hb.cell 19, hb.cell 20, hr, hb, hw⟩
theorem PlS.row {h : Hd} {H : Nat} {w w' : World} (s : PlS h H w w') : ∃ r : List Value, r.length = 21 ∧ Blk w' (H + 1) 32 r := s.2.2.2.2.2.2.2.2.2.2.2.2.2.2.2.2.2.2.2.2.2.1
theorem PlS.blk {h : Hd} {H : Nat} {w w' : World} (s : PlS h H w w') : Blk w' H 26 h.icells := s.2.2.2.2.2.2.2.2.2.2.2.2.2.2.2.2.2.2.2.2.2.2.1
theorem PlS.bel {h : Hd} {H : Nat} {w w' : World} (s : PlS h H w w') : Below w.heap.size w w' := s.2.2.2.2.2.2.2.2.2.2.2.2.2.2.2.2.2.2.2.2.2.2.2
theorem PlS.below {h : Hd} {H : Nat} {w w' w'' : World} (s : PlS h H w w') (hb : Below w'.heap.size w' w'') : PlS h H w w'' := by
  obtain ⟨r, h1, h2⟩ := s.row
  exact PlS.of (s.blk.below hb s.blk.lt) ⟨r, h1, h2.below hb h2.lt⟩ (s.bel.trans (hb.mono s.bel.size))
theorem PlS.put {h : Hd} {H : Nat} {w w' : World} (s : PlS h H w w') (hH : w.heap.size = H) (x : Hd) : PlS h H w (w'.setRow (H + 1) x.arr) := by
  obtain ⟨r, h1, h2⟩ := s.row
  exact PlS.of (s.blk.grown (setRow_grown _ _ _) (fun e => by cases e)) ⟨x.cells, rfl, setRow_blk w' (H + 1) _ r x.cells h2⟩ (s.bel.grown (setRow_grown _ _ _) s.bel.size (fun q hq => by cases hq; omega))
def PlainP (h : Hd) (rs : List (ByteArray × ByteArray)) (w : World) (e : Ending) (w' : World) : Prop :=
  ∃ A c, e = .returned (.agg ({ h with rA := A, rc := c } : Hd).arr) ∧ RC w' w'.heap.size A (recsV rs) ∧ Below w.heap.size w w'
set_option maxRecDepth 20000 in
set_option maxHeartbeats 8000000 in
theorem lawPlain (h : Hd) (B : Nat) (rs : List (ByteArray × ByteArray)) (w : World) (hl : rs.length = h.rn) (hr : RC w B h.rA (recsV rs)) (hB : B ≤ w.heap.size) (hn : h.rn ≤ 2147483647) :
    Calls Tryz.prog 6 #[h.ival] w (PlainP h rs w) := by
  have HB0 : Hid (Blk ((w.alloc (.cells h.iarr 26)).alloc (.cells #[.int .u8 0, .string { data := #[] }, .string { data := #[] }, .int .i64 0, .int .i64 0, .int .i64 0, .int .i64 0, .string { data := #[] }, .string { data := #[] }, .int .i64 0, .int .i64 0, .bool false, .bool false, .int .i64 0, .int .i64 0, .int .i64 0, .int .i64 0, .int .i64 0, .int .i64 0, .slice none 0 0, .int .i64 0] 32)) w.heap.size 26 h.icells) := Lib.hid ((h.iblk w _).alloc _)
  have HB1 : Hid (Blk ((w.alloc (.cells h.iarr 26)).alloc (.cells #[.int .u8 0, .string { data := #[] }, .string { data := #[] }, .int .i64 0, .int .i64 0, .int .i64 0, .int .i64 0, .string { data := #[] }, .string { data := #[] }, .int .i64 0, .int .i64 0, .bool false, .bool false, .int .i64 0, .int .i64 0, .int .i64 0, .int .i64 0, .int .i64 0, .int .i64 0, .slice none 0 0, .int .i64 0] 32)) (w.heap.size + 1) 32 hd0.cells) := Lib.hid (second_blk' w _ _ hd0.cells)
  have HW : Hid (Below w.heap.size w ((w.alloc (.cells h.iarr 26)).alloc (.cells #[.int .u8 0, .string { data := #[] }, .string { data := #[] }, .int .i64 0, .int .i64 0, .int .i64 0, .int .i64 0, .string { data := #[] }, .string { data := #[] }, .int .i64 0, .int .i64 0, .bool false, .bool false, .int .i64 0, .int .i64 0, .int .i64 0, .int .i64 0, .int .i64 0, .int .i64 0, .slice none 0 0, .int .i64 0] 32))) := Lib.hid (two_al' w _ _)
  have HC : Hid (∀ w1, Below w.heap.size w w1 → Calls Tryz.prog 13 #[.slice h.rA h.rn h.rc] w1 (MadeR 60 h.rn rs w1)) := Lib.hid (fun w1 hb => lawRecords h.rA h.rn h.rc B rs w1 hl (hr.below (hb.mono hB)) (Nat.le_trans hB hb.size) hn)
  unfold Hd.ival
  clear hl hr hn
  go_enter Tryz.func6, Tryz.ntmps6
  go_upto_region 1 with fail
  generalize (w.alloc (.cells h.iarr 26)).alloc (.cells #[.int .u8 0, .string { data := #[] }, .string { data := #[] }, .int .i64 0, .int .i64 0, .int .i64 0, .int .i64 0, .string { data := #[] }, .string { data := #[] }, .int .i64 0, .int .i64 0, .bool false, .bool false, .int .i64 0, .int .i64 0, .int .i64 0, .int .i64 0, .int .i64 0, .int .i64 0, .slice none 0 0, .int .i64 0] 32) = w1 at HB0 HB1 HW ⊢
  obtain ⟨H, hH⟩ : ∃ H, w.heap.size = H := ⟨_, rfl⟩
  rw [hH] at HB0 HB1
  rw [hH]
  have HH := Lib.hid hH
  clear hH
  have KS : Hid (PlS h H w w1.drew) := Lib.hid (PlS.of (HB0.out.below ((Below.refl _ w1).drew) HB0.out.lt) ⟨hd0.cells, rfl, HB1.out.below ((Below.refl _ w1).drew) HB1.out.lt⟩ HW.out.drew)
  clear HB0 HB1 HW hB
  refine wp_region_held_drew (S := fun w' => PlS h H w w') (by kernel_rfl) (KS.out) (fun hHeld => ?_)
  refine wpAnyH_take (i := 0) (oi := { dst := some 3, op := Go.Op.fieldAddr 26 (Go.Operand.tmp 1) 0, type := 0, pos := "laws.go:23", after := #[], guard := none }) (v := .pointer (some ⟨H, 0, none⟩)) rfl (by kernel_rfl) (by kernel_rfl) (by kernel_rfl) (fun _ _ _ h => h) (Or.inl ⟨by rfl, fun w9 hS9 => ?_⟩) hHeld ?_
  · obtain ⟨g0, g1, g2, g3, g4, g5, g6, g7, g8, g9, g10, g11, g12, g13, g14, g15, g16, g17, g18, g19, g20, _⟩ := hS9
    go_simp
  simp only [Act.put, List.setIfInBounds_toArray, List.set_cons_zero, List.set_cons_succ]
  refine wpAnyH_take (i := 1) (oi := { dst := some 4, op := Go.Op.load 5 (Go.Operand.tmp 3), type := 5, pos := "laws.go:23", after := #[{ on := 0, ground := Go.Ground.data }], guard := none }) (v := .int .u8 h.ty) rfl (by kernel_rfl) (by kernel_rfl) (by kernel_rfl) (fun _ _ _ h => h) (Or.inl ⟨by rfl, fun w9 hS9 => ?_⟩) hHeld ?_
  · obtain ⟨g0, g1, g2, g3, g4, g5, g6, g7, g8, g9, g10, g11, g12, g13, g14, g15, g16, g17, g18, g19, g20, _⟩ := hS9
    go_simp
  simp only [Act.put, List.setIfInBounds_toArray, List.set_cons_zero, List.set_cons_succ]
  refine wpAnyH_take (i := 2) (oi := { dst := some 5, op := Go.Op.fieldAddr 26 (Go.Operand.tmp 1) 1, type := 0, pos := "laws.go:23", after := #[], guard := none }) (v := .pointer (some ⟨H, 1, none⟩)) rfl (by kernel_rfl) (by kernel_rfl) (by kernel_rfl) (fun _ _ _ h => h) (Or.inl ⟨by rfl, fun w9 hS9 => ?_⟩) hHeld ?_
  · obtain ⟨g0, g1, g2, g3, g4, g5, g6, g7, g8, g9, g10, g11, g12, g13, g14, g15, g16, g17, g18, g19, g20, _⟩ := hS9
    go_simp
  simp only [Act.put, List.setIfInBounds_toArray, List.set_cons_zero, List.set_cons_succ]
  refine wpAnyH_take (i := 3) (oi := { dst := some 6, op := Go.Op.load 9 (Go.Operand.tmp 5), type := 9, pos := "laws.go:23", after := #[{ on := 2, ground := Go.Ground.data }], guard := none }) (v := .string h.name) rfl (by kernel_rfl) (by kernel_rfl) (by kernel_rfl) (fun _ _ _ h => h) (Or.inl ⟨by rfl, fun w9 hS9 => ?_⟩) hHeld ?_
  · obtain ⟨g0, g1, g2, g3, g4, g5, g6, g7, g8, g9, g10, g11, g12, g13, g14, g15, g16, g17, g18, g19, g20, _⟩ := hS9
    go_simp
  simp only [Act.put, List.setIfInBounds_toArray, List.set_cons_zero, List.set_cons_succ]
  refine wpAnyH_take (i := 4) (oi := { dst := some 7, op := Go.Op.fieldAddr 26 (Go.Operand.tmp 1) 2, type := 0, pos := "laws.go:23", after := #[], guard := none }) (v := .pointer (some ⟨H, 2, none⟩)) rfl (by kernel_rfl) (by kernel_rfl) (by kernel_rfl) (fun _ _ _ h => h) (Or.inl ⟨by rfl, fun w9 hS9 => ?_⟩) hHeld ?_
  · obtain ⟨g0, g1, g2, g3, g4, g5, g6, g7, g8, g9, g10, g11, g12, g13, g14, g15, g16, g17, g18, g19, g20, _⟩ := hS9
    go_simp
  simp only [Act.put, List.setIfInBounds_toArray, List.set_cons_zero, List.set_cons_succ]
  refine wpAnyH_take (i := 5) (oi := { dst := some 8, op := Go.Op.load 9 (Go.Operand.tmp 7), type := 9, pos := "laws.go:23", after := #[{ on := 4, ground := Go.Ground.data }], guard := none }) (v := .string h.link) rfl (by kernel_rfl) (by kernel_rfl) (by kernel_rfl) (fun _ _ _ h => h) (Or.inl ⟨by rfl, fun w9 hS9 => ?_⟩) hHeld ?_
  · obtain ⟨g0, g1, g2, g3, g4, g5, g6, g7, g8, g9, g10, g11, g12, g13, g14, g15, g16, g17, g18, g19, g20, _⟩ := hS9
    go_simp
  simp only [Act.put, List.setIfInBounds_toArray, List.set_cons_zero, List.set_cons_succ]
  refine wpAnyH_take (i := 6) (oi := { dst := some 9, op := Go.Op.fieldAddr 26 (Go.Operand.tmp 1) 3, type := 0, pos := "laws.go:23", after := #[], guard := none }) (v := .pointer (some ⟨H, 3, none⟩)) rfl (by kernel_rfl) (by kernel_rfl) (by kernel_rfl) (fun _ _ _ h => h) (Or.inl ⟨by rfl, fun w9 hS9 => ?_⟩) hHeld ?_
  · obtain ⟨g0, g1, g2, g3, g4, g5, g6, g7, g8, g9, g10, g11, g12, g13, g14, g15, g16, g17, g18, g19, g20, _⟩ := hS9
    go_simp
  simp only [Act.put, List.setIfInBounds_toArray, List.set_cons_zero, List.set_cons_succ]
  refine wpAnyH_take (i := 7) (oi := { dst := some 10, op := Go.Op.load 2 (Go.Operand.tmp 9), type := 2, pos := "laws.go:23", after := #[{ on := 6, ground := Go.Ground.data }], guard := none }) (v := .int .i64 h.size) rfl (by kernel_rfl) (by kernel_rfl) (by kernel_rfl) (fun _ _ _ h => h) (Or.inl ⟨by rfl, fun w9 hS9 => ?_⟩) hHeld ?_
  · obtain ⟨g0, g1, g2, g3, g4, g5, g6, g7, g8, g9, g10, g11, g12, g13, g14, g15, g16, g17, g18, g19, g20, _⟩ := hS9
    go_simp
  simp only [Act.put, List.setIfInBounds_toArray, List.set_cons_zero, List.set_cons_succ]
  refine wpAnyH_take (i := 8) (oi := { dst := some 11, op := Go.Op.fieldAddr 26 (Go.Operand.tmp 1) 4, type := 0, pos := "laws.go:23", after := #[], guard := none }) (v := .pointer (some ⟨H, 4, none⟩)) rfl (by kernel_rfl) (by kernel_rfl) (by kernel_rfl) (fun _ _ _ h => h) (Or.inl ⟨by rfl, fun w9 hS9 => ?_⟩) hHeld ?_
  · obtain ⟨g0, g1, g2, g3, g4, g5, g6, g7, g8, g9, g10, g11, g12, g13, g14, g15, g16, g17, g18, g19, g20, _⟩ := hS9
    go_simp
  simp only [Act.put, List.setIfInBounds_toArray, List.set_cons_zero, List.set_cons_succ]
  refine wpAnyH_take (i := 9) (oi := { dst := some 12, op := Go.Op.load 2 (Go.Operand.tmp 11), type := 2, pos := "laws.go:23", after := #[{ on := 8, ground := Go.Ground.data }], guard := none }) (v := .int .i64 h.mode) rfl (by kernel_rfl) (by kernel_rfl) (by kernel_rfl) (fun _ _ _ h => h) (Or.inl ⟨by rfl, fun w9 hS9 => ?_⟩) hHeld ?_
  · obtain ⟨g0, g1, g2, g3, g4, g5, g6, g7, g8, g9, g10, g11, g12, g13, g14, g15, g16, g17, g18, g19, g20, _⟩ := hS9
    go_simp
  simp only [Act.put, List.setIfInBounds_toArray, List.set_cons_zero, List.set_cons_succ]
  refine wpAnyH_take (i := 10) (oi := { dst := some 13, op := Go.Op.fieldAddr 26 (Go.Operand.tmp 1) 5, type := 0, pos := "laws.go:23", after := #[], guard := none }) (v := .pointer (some ⟨H, 5, none⟩)) rfl (by kernel_rfl) (by kernel_rfl) (by kernel_rfl) (fun _ _ _ h => h) (Or.inl ⟨by rfl, fun w9 hS9 => ?_⟩) hHeld ?_
  · obtain ⟨g0, g1, g2, g3, g4, g5, g6, g7, g8, g9, g10, g11, g12, g13, g14, g15, g16, g17, g18, g19, g20, _⟩ := hS9
    go_simp
  simp only [Act.put, List.setIfInBounds_toArray, List.set_cons_zero, List.set_cons_succ]
  refine wpAnyH_take (i := 11) (oi := { dst := some 14, op := Go.Op.load 3 (Go.Operand.tmp 13), type := 3, pos := "laws.go:23", after := #[{ on := 10, ground := Go.Ground.data }], guard := none }) (v := .int .i64 h.uid) rfl (by kernel_rfl) (by kernel_rfl) (by kernel_rfl) (fun _ _ _ h => h) (Or.inl ⟨by rfl, fun w9 hS9 => ?_⟩) hHeld ?_
  · obtain ⟨g0, g1, g2, g3, g4, g5, g6, g7, g8, g9, g10, g11, g12, g13, g14, g15, g16, g17, g18, g19, g20, _⟩ := hS9
    go_simp
  simp only [Act.put, List.setIfInBounds_toArray, List.set_cons_zero, List.set_cons_succ]
  refine wpAnyH_take (i := 12) (oi := { dst := some 15, op := Go.Op.fieldAddr 26 (Go.Operand.tmp 1) 6, type := 0, pos := "laws.go:23", after := #[], guard := none }) (v := .pointer (some ⟨H, 6, none⟩)) rfl (by kernel_rfl) (by kernel_rfl) (by kernel_rfl) (fun _ _ _ h => h) (Or.inl ⟨by rfl, fun w9 hS9 => ?_⟩) hHeld ?_
  · obtain ⟨g0, g1, g2, g3, g4, g5, g6, g7, g8, g9, g10, g11, g12, g13, g14, g15, g16, g17, g18, g19, g20, _⟩ := hS9
    go_simp
  simp only [Act.put, List.setIfInBounds_toArray, List.set_cons_zero, List.set_cons_succ]
  refine wpAnyH_take (i := 13) (oi := { dst := some 16, op := Go.Op.load 3 (Go.Operand.tmp 15), type := 3, pos := "laws.go:23", after := #[{ on := 12, ground := Go.Ground.data }], guard := none }) (v := .int .i64 h.gid) rfl (by kernel_rfl) (by kernel_rfl) (by kernel_rfl) (fun _ _ _ h => h) (Or.inl ⟨by rfl, fun w9 hS9 => ?_⟩) hHeld ?_
  · obtain ⟨g0, g1, g2, g3, g4, g5, g6, g7, g8, g9, g10, g11, g12, g13, g14, g15, g16, g17, g18, g19, g20, _⟩ := hS9
    go_simp
  simp only [Act.put, List.setIfInBounds_toArray, List.set_cons_zero, List.set_cons_succ]
  refine wpAnyH_take (i := 14) (oi := { dst := some 17, op := Go.Op.fieldAddr 26 (Go.Operand.tmp 1) 7, type := 0, pos := "laws.go:23", after := #[], guard := none }) (v := .pointer (some ⟨H, 7, none⟩)) rfl (by kernel_rfl) (by kernel_rfl) (by kernel_rfl) (fun _ _ _ h => h) (Or.inl ⟨by rfl, fun w9 hS9 => ?_⟩) hHeld ?_
  · obtain ⟨g0, g1, g2, g3, g4, g5, g6, g7, g8, g9, g10, g11, g12, g13, g14, g15, g16, g17, g18, g19, g20, _⟩ := hS9
    go_simp
  simp only [Act.put, List.setIfInBounds_toArray, List.set_cons_zero, List.set_cons_succ]
  refine wpAnyH_take (i := 15) (oi := { dst := some 18, op := Go.Op.load 9 (Go.Operand.tmp 17), type := 9, pos := "laws.go:23", after := #[{ on := 14, ground := Go.Ground.data }], guard := none }) (v := .string h.un) rfl (by kernel_rfl) (by kernel_rfl) (by kernel_rfl) (fun _ _ _ h => h) (Or.inl ⟨by rfl, fun w9 hS9 => ?_⟩) hHeld ?_
  · obtain ⟨g0, g1, g2, g3, g4, g5, g6, g7, g8, g9, g10, g11, g12, g13, g14, g15, g16, g17, g18, g19, g20, _⟩ := hS9
    go_simp
  simp only [Act.put, List.setIfInBounds_toArray, List.set_cons_zero, List.set_cons_succ]
  refine wpAnyH_take (i := 16) (oi := { dst := some 19, op := Go.Op.fieldAddr 26 (Go.Operand.tmp 1) 8, type := 0, pos := "laws.go:23", after := #[], guard := none }) (v := .pointer (some ⟨H, 8, none⟩)) rfl (by kernel_rfl) (by kernel_rfl) (by kernel_rfl) (fun _ _ _ h => h) (Or.inl ⟨by rfl, fun w9 hS9 => ?_⟩) hHeld ?_
  · obtain ⟨g0, g1, g2, g3, g4, g5, g6, g7, g8, g9, g10, g11, g12, g13, g14, g15, g16, g17, g18, g19, g20, _⟩ := hS9
    go_simp
  simp only [Act.put, List.setIfInBounds_toArray, List.set_cons_zero, List.set_cons_succ]
  refine wpAnyH_take (i := 17) (oi := { dst := some 20, op := Go.Op.load 9 (Go.Operand.tmp 19), type := 9, pos := "laws.go:23", after := #[{ on := 16, ground := Go.Ground.data }], guard := none }) (v := .string h.gn) rfl (by kernel_rfl) (by kernel_rfl) (by kernel_rfl) (fun _ _ _ h => h) (Or.inl ⟨by rfl, fun w9 hS9 => ?_⟩) hHeld ?_
  · obtain ⟨g0, g1, g2, g3, g4, g5, g6, g7, g8, g9, g10, g11, g12, g13, g14, g15, g16, g17, g18, g19, g20, _⟩ := hS9
    go_simp
  simp only [Act.put, List.setIfInBounds_toArray, List.set_cons_zero, List.set_cons_succ]
  refine wpAnyH_take (i := 18) (oi := { dst := some 21, op := Go.Op.fieldAddr 26 (Go.Operand.tmp 1) 9, type := 0, pos := "laws.go:23", after := #[], guard := none }) (v := .pointer (some ⟨H, 9, none⟩)) rfl (by kernel_rfl) (by kernel_rfl) (by kernel_rfl) (fun _ _ _ h => h) (Or.inl ⟨by rfl, fun w9 hS9 => ?_⟩) hHeld ?_
  · obtain ⟨g0, g1, g2, g3, g4, g5, g6, g7, g8, g9, g10, g11, g12, g13, g14, g15, g16, g17, g18, g19, g20, _⟩ := hS9
    go_simp
  simp only [Act.put, List.setIfInBounds_toArray, List.set_cons_zero, List.set_cons_succ]
  refine wpAnyH_take (i := 19) (oi := { dst := some 22, op := Go.Op.load 23 (Go.Operand.tmp 21), type := 23, pos := "laws.go:23", after := #[{ on := 18, ground := Go.Ground.data }], guard := none }) (v := .agg #[.int .i64 h.ms, .int .i64 h.mn]) rfl (by kernel_rfl) (by kernel_rfl) (by kernel_rfl) (fun _ _ _ h => h) (Or.inl ⟨by rfl, fun w9 hS9 => ?_⟩) hHeld ?_
  · obtain ⟨g0, g1, g2, g3, g4, g5, g6, g7, g8, g9, g10, g11, g12, g13, g14, g15, g16, g17, g18, g19, g20, _⟩ := hS9
    go_simp
  simp only [Act.put, List.setIfInBounds_toArray, List.set_cons_zero, List.set_cons_succ]
  refine wpAnyH_take (i := 20) (oi := { dst := some 23, op := Go.Op.fieldAddr 26 (Go.Operand.tmp 1) 10, type := 0, pos := "laws.go:23", after := #[], guard := none }) (v := .pointer (some ⟨H, 11, none⟩)) rfl (by kernel_rfl) (by kernel_rfl) (by kernel_rfl) (fun _ _ _ h => h) (Or.inl ⟨by rfl, fun w9 hS9 => ?_⟩) hHeld ?_
  · obtain ⟨g0, g1, g2, g3, g4, g5, g6, g7, g8, g9, g10, g11, g12, g13, g14, g15, g16, g17, g18, g19, g20, _⟩ := hS9
    go_simp
  simp only [Act.put, List.setIfInBounds_toArray, List.set_cons_zero, List.set_cons_succ]
  refine wpAnyH_take (i := 21) (oi := { dst := some 24, op := Go.Op.load 4 (Go.Operand.tmp 23), type := 4, pos := "laws.go:23", after := #[{ on := 20, ground := Go.Ground.data }], guard := none }) (v := .bool h.ha) rfl (by kernel_rfl) (by kernel_rfl) (by kernel_rfl) (fun _ _ _ h => h) (Or.inl ⟨by rfl, fun w9 hS9 => ?_⟩) hHeld ?_
  · obtain ⟨g0, g1, g2, g3, g4, g5, g6, g7, g8, g9, g10, g11, g12, g13, g14, g15, g16, g17, g18, g19, g20, _⟩ := hS9
    go_simp
  simp only [Act.put, List.setIfInBounds_toArray, List.set_cons_zero, List.set_cons_succ]
  refine wpAnyH_take (i := 22) (oi := { dst := some 25, op := Go.Op.fieldAddr 26 (Go.Operand.tmp 1) 11, type := 0, pos := "laws.go:23", after := #[], guard := none }) (v := .pointer (some ⟨H, 12, none⟩)) rfl (by kernel_rfl) (by kernel_rfl) (by kernel_rfl) (fun _ _ _ h => h) (Or.inl ⟨by rfl, fun w9 hS9 => ?_⟩) hHeld ?_
  · obtain ⟨g0, g1, g2, g3, g4, g5, g6, g7, g8, g9, g10, g11, g12, g13, g14, g15, g16, g17, g18, g19, g20, _⟩ := hS9
    go_simp
  simp only [Act.put, List.setIfInBounds_toArray, List.set_cons_zero, List.set_cons_succ]
  refine wpAnyH_take (i := 23) (oi := { dst := some 26, op := Go.Op.load 23 (Go.Operand.tmp 25), type := 23, pos := "laws.go:23", after := #[{ on := 22, ground := Go.Ground.data }], guard := none }) (v := .agg #[.int .i64 h.as_, .int .i64 h.an]) rfl (by kernel_rfl) (by kernel_rfl) (by kernel_rfl) (fun _ _ _ h => h) (Or.inl ⟨by rfl, fun w9 hS9 => ?_⟩) hHeld ?_
  · obtain ⟨g0, g1, g2, g3, g4, g5, g6, g7, g8, g9, g10, g11, g12, g13, g14, g15, g16, g17, g18, g19, g20, _⟩ := hS9
    go_simp
  simp only [Act.put, List.setIfInBounds_toArray, List.set_cons_zero, List.set_cons_succ]
  refine wpAnyH_take (i := 24) (oi := { dst := some 27, op := Go.Op.fieldAddr 26 (Go.Operand.tmp 1) 12, type := 0, pos := "laws.go:23", after := #[], guard := none }) (v := .pointer (some ⟨H, 14, none⟩)) rfl (by kernel_rfl) (by kernel_rfl) (by kernel_rfl) (fun _ _ _ h => h) (Or.inl ⟨by rfl, fun w9 hS9 => ?_⟩) hHeld ?_
  · obtain ⟨g0, g1, g2, g3, g4, g5, g6, g7, g8, g9, g10, g11, g12, g13, g14, g15, g16, g17, g18, g19, g20, _⟩ := hS9
    go_simp
  simp only [Act.put, List.setIfInBounds_toArray, List.set_cons_zero, List.set_cons_succ]
  refine wpAnyH_take (i := 25) (oi := { dst := some 28, op := Go.Op.load 4 (Go.Operand.tmp 27), type := 4, pos := "laws.go:23", after := #[{ on := 24, ground := Go.Ground.data }], guard := none }) (v := .bool h.hc) rfl (by kernel_rfl) (by kernel_rfl) (by kernel_rfl) (fun _ _ _ h => h) (Or.inl ⟨by rfl, fun w9 hS9 => ?_⟩) hHeld ?_
  · obtain ⟨g0, g1, g2, g3, g4, g5, g6, g7, g8, g9, g10, g11, g12, g13, g14, g15, g16, g17, g18, g19, g20, _⟩ := hS9
    go_simp
  simp only [Act.put, List.setIfInBounds_toArray, List.set_cons_zero, List.set_cons_succ]
  refine wpAnyH_take (i := 26) (oi := { dst := some 29, op := Go.Op.fieldAddr 26 (Go.Operand.tmp 1) 13, type := 0, pos := "laws.go:23", after := #[], guard := none }) (v := .pointer (some ⟨H, 15, none⟩)) rfl (by kernel_rfl) (by kernel_rfl) (by kernel_rfl) (fun _ _ _ h => h) (Or.inl ⟨by rfl, fun w9 hS9 => ?_⟩) hHeld ?_
  · obtain ⟨g0, g1, g2, g3, g4, g5, g6, g7, g8, g9, g10, g11, g12, g13, g14, g15, g16, g17, g18, g19, g20, _⟩ := hS9
    go_simp
  simp only [Act.put, List.setIfInBounds_toArray, List.set_cons_zero, List.set_cons_succ]
  refine wpAnyH_take (i := 27) (oi := { dst := some 30, op := Go.Op.load 23 (Go.Operand.tmp 29), type := 23, pos := "laws.go:23", after := #[{ on := 26, ground := Go.Ground.data }], guard := none }) (v := .agg #[.int .i64 h.cs, .int .i64 h.cn]) rfl (by kernel_rfl) (by kernel_rfl) (by kernel_rfl) (fun _ _ _ h => h) (Or.inl ⟨by rfl, fun w9 hS9 => ?_⟩) hHeld ?_
  · obtain ⟨g0, g1, g2, g3, g4, g5, g6, g7, g8, g9, g10, g11, g12, g13, g14, g15, g16, g17, g18, g19, g20, _⟩ := hS9
    go_simp
  simp only [Act.put, List.setIfInBounds_toArray, List.set_cons_zero, List.set_cons_succ]
  refine wpAnyH_take (i := 28) (oi := { dst := some 31, op := Go.Op.fieldAddr 26 (Go.Operand.tmp 1) 14, type := 0, pos := "laws.go:23", after := #[], guard := none }) (v := .pointer (some ⟨H, 17, none⟩)) rfl (by kernel_rfl) (by kernel_rfl) (by kernel_rfl) (fun _ _ _ h => h) (Or.inl ⟨by rfl, fun w9 hS9 => ?_⟩) hHeld ?_
  · obtain ⟨g0, g1, g2, g3, g4, g5, g6, g7, g8, g9, g10, g11, g12, g13, g14, g15, g16, g17, g18, g19, g20, _⟩ := hS9
    go_simp
  simp only [Act.put, List.setIfInBounds_toArray, List.set_cons_zero, List.set_cons_succ]
  refine wpAnyH_take (i := 29) (oi := { dst := some 32, op := Go.Op.load 2 (Go.Operand.tmp 31), type := 2, pos := "laws.go:23", after := #[{ on := 28, ground := Go.Ground.data }], guard := none }) (v := .int .i64 h.maj) rfl (by kernel_rfl) (by kernel_rfl) (by kernel_rfl) (fun _ _ _ h => h) (Or.inl ⟨by rfl, fun w9 hS9 => ?_⟩) hHeld ?_
  · obtain ⟨g0, g1, g2, g3, g4, g5, g6, g7, g8, g9, g10, g11, g12, g13, g14, g15, g16, g17, g18, g19, g20, _⟩ := hS9
    go_simp
  simp only [Act.put, List.setIfInBounds_toArray, List.set_cons_zero, List.set_cons_succ]
  refine wpAnyH_take (i := 30) (oi := { dst := some 33, op := Go.Op.fieldAddr 26 (Go.Operand.tmp 1) 15, type := 0, pos := "laws.go:23", after := #[], guard := none }) (v := .pointer (some ⟨H, 18, none⟩)) rfl (by kernel_rfl) (by kernel_rfl) (by kernel_rfl) (fun _ _ _ h => h) (Or.inl ⟨by rfl, fun w9 hS9 => ?_⟩) hHeld ?_
  · obtain ⟨g0, g1, g2, g3, g4, g5, g6, g7, g8, g9, g10, g11, g12, g13, g14, g15, g16, g17, g18, g19, g20, _⟩ := hS9
    go_simp
  simp only [Act.put, List.setIfInBounds_toArray, List.set_cons_zero, List.set_cons_succ]
  refine wpAnyH_take (i := 31) (oi := { dst := some 34, op := Go.Op.load 2 (Go.Operand.tmp 33), type := 2, pos := "laws.go:23", after := #[{ on := 30, ground := Go.Ground.data }], guard := none }) (v := .int .i64 h.min) rfl (by kernel_rfl) (by kernel_rfl) (by kernel_rfl) (fun _ _ _ h => h) (Or.inl ⟨by rfl, fun w9 hS9 => ?_⟩) hHeld ?_
  · obtain ⟨g0, g1, g2, g3, g4, g5, g6, g7, g8, g9, g10, g11, g12, g13, g14, g15, g16, g17, g18, g19, g20, _⟩ := hS9
    go_simp
  simp only [Act.put, List.setIfInBounds_toArray, List.set_cons_zero, List.set_cons_succ]
  refine wpAnyH_take (i := 32) (oi := { dst := some 35, op := Go.Op.fieldAddr 26 (Go.Operand.tmp 1) 16, type := 0, pos := "laws.go:23", after := #[], guard := none }) (v := .pointer (some ⟨H, 19, none⟩)) rfl (by kernel_rfl) (by kernel_rfl) (by kernel_rfl) (fun _ _ _ h => h) (Or.inl ⟨by rfl, fun w9 hS9 => ?_⟩) hHeld ?_
  · obtain ⟨g0, g1, g2, g3, g4, g5, g6, g7, g8, g9, g10, g11, g12, g13, g14, g15, g16, g17, g18, g19, g20, _⟩ := hS9
    go_simp
  simp only [Act.put, List.setIfInBounds_toArray, List.set_cons_zero, List.set_cons_succ]
  refine wpAnyH_take (i := 33) (oi := { dst := some 36, op := Go.Op.load 24 (Go.Operand.tmp 35), type := 24, pos := "laws.go:23", after := #[{ on := 32, ground := Go.Ground.data }], guard := none }) (v := .slice h.rA h.rn h.rc) rfl (by kernel_rfl) (by kernel_rfl) (by kernel_rfl) (fun _ _ _ h => h) (Or.inl ⟨by rfl, fun w9 hS9 => ?_⟩) hHeld ?_
  · obtain ⟨g0, g1, g2, g3, g4, g5, g6, g7, g8, g9, g10, g11, g12, g13, g14, g15, g16, g17, g18, g19, g20, _⟩ := hS9
    go_simp
  simp only [Act.put, List.setIfInBounds_toArray, List.set_cons_zero, List.set_cons_succ]
  refine wpAnyH_take (i := 35) (oi := { dst := some 38, op := Go.Op.fieldAddr 26 (Go.Operand.tmp 1) 17, type := 0, pos := "laws.go:23", after := #[], guard := none }) (v := .pointer (some ⟨H, 20, none⟩)) rfl (by kernel_rfl) (by kernel_rfl) (by kernel_rfl) (fun _ _ _ h => h) (Or.inl ⟨by rfl, fun w9 hS9 => ?_⟩) hHeld ?_
  · obtain ⟨g0, g1, g2, g3, g4, g5, g6, g7, g8, g9, g10, g11, g12, g13, g14, g15, g16, g17, g18, g19, g20, _⟩ := hS9
    go_simp
  simp only [Act.put, List.setIfInBounds_toArray, List.set_cons_zero, List.set_cons_succ]
  refine wpAnyH_take (i := 36) (oi := { dst := some 39, op := Go.Op.load 3 (Go.Operand.tmp 38), type := 3, pos := "laws.go:23", after := #[{ on := 35, ground := Go.Ground.data }], guard := none }) (v := .int .i64 h.fm) rfl (by kernel_rfl) (by kernel_rfl) (by kernel_rfl) (fun _ _ _ h => h) (Or.inl ⟨by rfl, fun w9 hS9 => ?_⟩) hHeld ?_
  · obtain ⟨g0, g1, g2, g3, g4, g5, g6, g7, g8, g9, g10, g11, g12, g13, g14, g15, g16, g17, g18, g19, g20, _⟩ := hS9
    go_simp
  simp only [Act.put, List.setIfInBounds_toArray, List.set_cons_zero, List.set_cons_succ]
  refine wpAnyH_ready (rs := [34]) (by kernel_rfl) (by simp) ?_
  refine AllReadyH.cons (o := { dst := some 37, op := Go.Op.call { callee := Go.Callee.value (Go.Operand.func 13), args := #[Go.Operand.tmp 36], argTypes := #[24] }, type := 30, pos := "laws.go:26", after := #[{ on := 33, ground := Go.Ground.data }], guard := none }) rfl (fun K9 hK9 => ?_) AllReadyH.nil
  go_simp
  refine (HC.out _ (PlS.bel hHeld)).mono ?_
  rintro e w9 ⟨vr, rfl, hown, hbo⟩
  obtain ⟨A', c', rfl, _, _, hA9⟩ := own_form hown
  have HOWN := Lib.hid (RC.of_own hown)
  have HNE : Hid (∀ ad, A' = some ad → ad.block ∉ [H + 1]) := Lib.hid (fun ad e hm => by have h1 := (hA9 ad e).1; obtain ⟨_, _, h2⟩ := PlS.row hHeld; have h3 := h2.lt; have h4 := List.mem_singleton.1 hm; omega)
  clear hown hA9
  refine hK9.out _ _ (PlS.below hHeld hbo) (fun hHeld1 => ?_)
  clear hK9 K9
  try simp only [Act.put, List.setIfInBounds_toArray, List.set_cons_zero, List.set_cons_succ]
  refine wpAnyH_take (i := 37) (oi := { dst := some 40, op := Go.Op.build 32 #[(0, Go.Operand.tmp 4), (1, Go.Operand.tmp 6), (2, Go.Operand.tmp 8), (3, Go.Operand.tmp 10), (4, Go.Operand.tmp 12), (5, Go.Operand.tmp 14), (6, Go.Operand.tmp 16), (7, Go.Operand.tmp 18), (8, Go.Operand.tmp 20), (9, Go.Operand.tmp 22), (10, Go.Operand.tmp 24), (12, Go.Operand.tmp 26), (11, Go.Operand.tmp 28), (13, Go.Operand.tmp 30), (14, Go.Operand.tmp 32), (15, Go.Operand.tmp 34), (16, Go.Operand.tmp 37), (17, Go.Operand.tmp 39)], type := 32, pos := "laws.go:23", after := #[{ on := 1, ground := Go.Ground.data }, { on := 3, ground := Go.Ground.data }, { on := 5, ground := Go.Ground.data }, { on := 7, ground := Go.Ground.data }, { on := 9, ground := Go.Ground.data }, { on := 11, ground := Go.Ground.data }, { on := 13, ground := Go.Ground.data }, { on := 15, ground := Go.Ground.data }, { on := 17, ground := Go.Ground.data }, { on := 19, ground := Go.Ground.data }, { on := 21, ground := Go.Ground.data }, { on := 23, ground := Go.Ground.data }, { on := 25, ground := Go.Ground.data }, { on := 27, ground := Go.Ground.data }, { on := 29, ground := Go.Ground.data }, { on := 31, ground := Go.Ground.data }, { on := 34, ground := Go.Ground.data }, { on := 36, ground := Go.Ground.data }], guard := none }) (v := .agg #[.int .u8 h.ty, .string h.name, .string h.link, .int .i64 h.size, .int .i64 h.mode, .int .i64 h.uid, .int .i64 h.gid, .string h.un, .string h.gn, .int .i64 h.ms, .int .i64 h.mn, .bool h.ha, .bool h.hc, .int .i64 h.as_, .int .i64 h.an, .int .i64 h.cs, .int .i64 h.cn, .int .i64 h.maj, .int .i64 h.min, .slice A' h.rn c', .int .i64 h.fm]) rfl (by kernel_rfl) (by kernel_rfl) (by kernel_rfl) (fun _ _ _ h => h) (Or.inl ⟨by rfl, fun w9 hS9 => ?_⟩) hHeld1 ?_
  · obtain ⟨g0, g1, g2, g3, g4, g5, g6, g7, g8, g9, g10, g11, g12, g13, g14, g15, g16, g17, g18, g19, g20, _⟩ := hS9
    go_simp
  simp only [Act.put, List.setIfInBounds_toArray, List.set_cons_zero, List.set_cons_succ]
  refine wpAnyH_ready (rs := [38]) (by kernel_rfl) (by simp) ?_
  refine AllReadyH.cons (o := { dst := none, op := Go.Op.store 32 (Go.Operand.tmp 2) (Go.Operand.tmp 40), type := 0, pos := "laws.go:23", after := #[{ on := 37, ground := Go.Ground.data }, { on := 34, ground := Go.Ground.chain }, { on := 0, ground := Go.Ground.phase }, { on := 1, ground := Go.Ground.phase }, { on := 2, ground := Go.Ground.phase }, { on := 3, ground := Go.Ground.phase }, { on := 4, ground := Go.Ground.phase }, { on := 5, ground := Go.Ground.phase }, { on := 6, ground := Go.Ground.phase }, { on := 7, ground := Go.Ground.phase }, { on := 8, ground := Go.Ground.phase }, { on := 9, ground := Go.Ground.phase }, { on := 10, ground := Go.Ground.phase }, { on := 11, ground := Go.Ground.phase }, { on := 12, ground := Go.Ground.phase }, { on := 13, ground := Go.Ground.phase }, { on := 14, ground := Go.Ground.phase }, { on := 15, ground := Go.Ground.phase }, { on := 16, ground := Go.Ground.phase }, { on := 17, ground := Go.Ground.phase }, { on := 18, ground := Go.Ground.phase }, { on := 19, ground := Go.Ground.phase }, { on := 20, ground := Go.Ground.phase }, { on := 21, ground := Go.Ground.phase }, { on := 22, ground := Go.Ground.phase }, { on := 23, ground := Go.Ground.phase }, { on := 24, ground := Go.Ground.phase }, { on := 25, ground := Go.Ground.phase }, { on := 26, ground := Go.Ground.phase }, { on := 27, ground := Go.Ground.phase }, { on := 28, ground := Go.Ground.phase }, { on := 29, ground := Go.Ground.phase }, { on := 30, ground := Go.Ground.phase }, { on := 31, ground := Go.Ground.phase }, { on := 32, ground := Go.Ground.phase }, { on := 33, ground := Go.Ground.phase }, { on := 34, ground := Go.Ground.phase }, { on := 35, ground := Go.Ground.phase }, { on := 36, ground := Go.Ground.phase }, { on := 37, ground := Go.Ground.phase }], guard := none }) rfl (fun K9 hK9 => ?_) AllReadyH.nil
  obtain ⟨r9, hr9, hg9⟩ := PlS.row hHeld1
  rw [if_pos (by rfl)]
  refine wp_store_row 32 (.tmp 2) (.tmp 40) rfl (H + 1) ({ h with rA := A', rc := c' } : Hd).arr rfl rfl 32 r9.toArray hg9 ({ h with rA := A', rc := c' } : Hd).size_ (by show r9.toArray.size = 21; simpa using hr9) ({ h with rA := A', rc := c' } : Hd).one_ ?_
  have HG9 : Hid (Blk _ (H + 1) 32 ({ h with rA := A', rc := c' } : Hd).cells) := Lib.hid (setRow_blk _ (H + 1) _ r9 ({ h with rA := A', rc := c' } : Hd).cells hg9)
  refine hK9.out _ _ (PlS.put hHeld1 HH.out ({ h with rA := A', rc := c' } : Hd)) (fun hHeld2 => ?_)
  clear hK9 K9
  try simp only [Act.put]
  refine wpAnyH_done (by kernel_rfl) ?_ _
  have HRC := Lib.hid ((HOWN.out.of_far (Far.of_grown (setRow_grown _ (H + 1) ({ h with rA := A', rc := c' } : Hd).arr) (fun k e => by cases e; exact List.mem_singleton.2 rfl)) (Nat.le_refl _) HNE.out).more (Nat.le_of_eq (setRow_size _ (H + 1) ({ h with rA := A', rc := c' } : Hd).arr).symm))
  have HBF := Lib.hid (PlS.bel hHeld2)
  clear hHeld2
  go_wp2_with fail
  refine bodyPost_ret (results_cell_row rfl _ _ (H + 1) 32 ({ h with rA := A', rc := c' } : Hd).arr (0, 0) _ rfl HG9.out Tryz.underlying32 rfl ({ h with rA := A', rc := c' } : Hd).size_) rfl ?_
  exact ⟨A', c', rfl, HRC.out, HBF.out⟩
end Go.Proofs.YtepeehjajhehfaaGreatDoor
