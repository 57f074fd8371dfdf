/- Words on bytes in memory: plain definitions and lemmas over any program. No condition. -/
import Derived.WalkKit
import Derived.WalkSpells
import Derived.WalkLawsBesides
import Derived.Handy
import Derived.PlainAid
import Derived.Lib.Hide
import Derived.Laws.CopyOwn
import Derived.Laws.MakeOwn
import Derived.BigQuiet
import Derived.Deep.QuietTactic
import Derived.Deep.Draws
namespace Go.Proofs.YtepeehjajhehfaaGreatDoor
open Go.RowKit

theorem val_i64 {a b : Int} (h : a = b) : Value.int .i64 a = Value.int .i64 b := by rw [h]
/-- What a call leaves that returns v and at most draws. -/
def Quietly (v : Value) (w : World) (e : Ending) (w' : World) : Prop := e = .returned v ∧ ∃ n, w' = w.drewN n

/-! ### Bytes -/
/-- Byte k of a list as a number. -/
def byt (bs : List UInt8) (k : Nat) : Int := ((bs.getD k 0).toNat : Int)
theorem byt_lo (bs : List UInt8) (k : Nat) : 0 ≤ byt bs k := by unfold byt; omega
theorem byt_hi (bs : List UInt8) (k : Nat) : byt bs k ≤ 255 := by
  unfold byt
  have := (bs.getD k 0).toNat_lt
  omega
/-- The cells of a list of bytes. -/
def bys (bs : List UInt8) : List Value := bs.map fun b => Value.int .u8 (b.toNat : Int)
theorem length_bys (bs : List UInt8) : (bys bs).length = bs.length := by simp [bys]
theorem bys_append (a b : List UInt8) : bys (a ++ b) = bys a ++ bys b := by simp [bys]
theorem bys_get (bs : List UInt8) (k : Nat) (h : k < bs.length) : (bys bs)[k]? = some (.int .u8 (byt bs k)) := by
  simp [bys, byt, List.getD, h]
theorem bys_get_of {bs : List UInt8} {k : Nat} {v : Value} (h : (bys bs)[k]? = some v) : k < bs.length ∧ v = .int .u8 (byt bs k) := by
  have hk : k < bs.length := by
    have := (List.getElem?_eq_some_iff.1 h).1
    simpa [length_bys] using this
  rw [bys_get bs k hk] at h
  exact ⟨hk, (Option.some.inj h).symm⟩
theorem bys_one (bs : List UInt8) : ∀ u ∈ bys bs, u.oneCell' = true := by
  intro u hu
  obtain ⟨_, _, rfl⟩ := List.mem_map.1 hu
  rfl
theorem bys_take (bs : List UInt8) (n : Nat) : bys (bs.take n) = (bys bs).take n := by simp [bys, List.map_take]
theorem bys_drop (bs : List UInt8) (n : Nat) : bys (bs.drop n) = (bys bs).drop n := by simp [bys, List.map_drop]
theorem bys_splice (bs cs : List UInt8) (n : Nat) : splice (bys bs) n (bys cs) = bys (splice bs n cs) := by
  simp [splice, bys_append, bys_take, bys_drop, length_bys]
/-- n times z; n bytes 0: plain definitions, which the walk leaves alone. -/
def reps (n : Nat) (z : Value) : List Value := List.replicate n z
def zbs (n : Nat) : List UInt8 := List.replicate n 0
theorem length_reps (n : Nat) (z : Value) : (reps n z).length = n := by simp [reps]
theorem length_zbs (n : Nat) : (zbs n).length = n := by simp [zbs]
theorem bys_zbs (n : Nat) : bys (zbs n) = reps n (.int .u8 0) := by simp [bys, zbs, reps]
theorem reps_get (n : Nat) (z : Value) (k : Nat) (h : k < n) : (reps n z)[k]? = some z := by simp [reps, h]

/-! ### A block that is known whole -/
def Blk (w : World) (g : Nat) (t : TypeId) (xs : List Value) : Prop := w.heap[g]? = some (.cells xs.toArray t (0, 0))
section
variable {w w' : World} {g : Nat} {t : TypeId} {xs : List Value}
theorem Blk.lt (h : Blk w g t xs) : g < w.heap.size := by
  rcases Nat.lt_or_ge g w.heap.size with hlt | hge
  · exact hlt
  · unfold Blk at h; rw [Array.getElem?_eq_none hge] at h; cases h
theorem Blk.cell (h : Blk w g t xs) (i : Nat) : w.cell? ⟨g, i, none⟩ = xs[i]? := by
  rw [cell_of_row w g i _ t (0, 0) h]; simp
theorem Blk.frozen (h : Blk w g t xs) (i : Nat) : w.frozen? ⟨g, i, none⟩ = false := frozen_of_row w g i _ t h
theorem Blk.alloc (h : Blk w g t xs) (o : Obj) : Blk (w.alloc o) g t xs := (Below.heap_alloc w o g h.lt).trans h
theorem Blk.drewN (h : Blk w g t xs) (n : Nat) : Blk (w.drewN n) g t xs := h
theorem Blk.grown {row : Option Nat} (h : Blk w g t xs) (hb : w.grownBy w' row) (hg : some g ≠ row) : Blk w' g t xs := (hb.block g h.lt hg).trans h
theorem Blk.below {B : Nat} (h : Blk w g t xs) (hb : Below B w w') (hg : g < B) : Blk w' g t xs := (hb.block g hg).trans h
theorem Blk.set_ (h : Blk w g t xs) (i : Nat) (u : Value) : Blk (w.setCell ⟨g, i, none⟩ u) g t (xs.set i u) := by
  unfold Blk at h ⊢
  simp [World.setCell, Array.getElem?_modify, h]
theorem Blk.far (h : Blk w g t xs) {p : Addr} (hp : g ≠ p.block) (u : Value) : Blk (w.setCell p u) g t xs := (Below.heap_setCell w p u g hp).trans h
end
theorem Blk.new (w : World) (t : TypeId) (xs : List Value) : Blk (w.alloc (.cells xs.toArray t)) w.heap.size t xs := heap_alloc_new w _
theorem below_drewN {B : Nat} {a w : World} (h : Below B a w) (n : Nat) : Below B a (w.drewN n) := ⟨h.os, h.tape, h.output, h.size, h.block⟩
theorem grownBy_below {w w' : World} {row : Option Nat} (h : w.grownBy w' row) {B : Nat} (hB : B ≤ w.heap.size) (hr : ∀ k, row = some k → B ≤ k) : Below B w w' := (Below.refl B w).grown h hB hr

/-- A slice at A reads as the bytes bs; it lies below block B. -/
def RB (w : World) (B : Nat) (A : Option Addr) (bs : List UInt8) : Prop :=
  0 < bs.length → ∃ b off, A = some ⟨b, off, none⟩ ∧ b < B ∧ ∀ i, i < bs.length → w.cell? ⟨b, off + i, none⟩ = some (.int .u8 (byt bs i))
section
variable {w w' : World} {B B' : Nat} {A : Option Addr} {bs : List UInt8}
theorem RB.keep (h : RB w B A bs) (hk : ∀ p : Addr, p.block < B → w'.cell? p = w.cell? p) : RB w' B A bs := fun hn => by
  obtain ⟨b, off, e, hb, hc⟩ := h hn
  exact ⟨b, off, e, hb, fun i hi => (hk _ hb).trans (hc i hi)⟩
theorem RB.more (h : RB w B A bs) (hB : B ≤ B') : RB w B' A bs := fun hn => by
  obtain ⟨b, off, e, hb, hc⟩ := h hn
  exact ⟨b, off, e, by omega, hc⟩
theorem RB.below (h : RB w B A bs) (hb : Below B w w') : RB w' B A bs := h.keep fun _ hp => hb.cell hp
theorem RB.drewN (h : RB w B A bs) (k : Nat) : RB (w.drewN k) B A bs := h
theorem RB.alloc (h : RB w B A bs) (hB : B ≤ w.heap.size) (o : Obj) : RB (w.alloc o) B A bs := h.keep fun p hp => World.cell?_alloc_lt w o p (by omega)
theorem RB.setCell (h : RB w B A bs) {p : Addr} (hB : B ≤ p.block) (u : Value) : RB (w.setCell p u) B A bs :=
  h.keep fun q hq => World.cell?_setCell_other w p q u (fun e => by subst e; omega)
theorem RB.grown (h : RB w B A bs) {row : Option Nat} (hg : w.grownBy w' row) (hB : B ≤ w.heap.size) (hr : ∀ g, row = some g → B ≤ g) : RB w' B A bs := h.below (grownBy_below hg hB hr)
theorem RB.of_blk {g : Nat} {t : TypeId} {xs : List UInt8} (h : Blk w g t (bys xs)) : RB w (g + 1) (some ⟨g, 0, none⟩) xs := fun _ =>
  ⟨g, 0, rfl, by omega, fun i hi => by rw [Nat.zero_add, h.cell, bys_get xs i hi]⟩
theorem RB.take (h : RB w B A bs) (n : Nat) : RB w B A (bs.take n) := fun hn => by
  rw [List.length_take] at hn
  obtain ⟨b, off, e, hb, hc⟩ := h (by omega)
  refine ⟨b, off, e, hb, fun i hi => ?_⟩
  rw [List.length_take] at hi
  rw [hc i (by omega)]
  simp [byt, List.getD, show i < n by omega]
end

/-- What the frame of a row knows of a slice of integers that came in. -/
def IsRow (k : IntKind) (w : World) (a : Option Addr) (len cap : Nat) (zs : List Int) : Prop :=
  (a = none ∧ len = 0 ∧ cap = 0 ∧ zs = []) ∨
  ∃ x, a = some x ∧ len ≤ cap ∧ cap ≤ maxLen ∧ zs.length = cap ∧ (∀ i, i < zs.length → w.cell? (x.add i) = some (.int k (zs.getD i 0))) ∧ ∀ n ∈ zs, (Lit.int k n).wf = true
theorem isRow_len {k : IntKind} {w : World} {a : Option Addr} {len cap : Nat} {zs : List Int} (h : IsRow k w a len cap zs) : len ≤ 9223372036854775807 := by
  rcases h with ⟨_, rfl, _, _⟩ | ⟨_, _, h1, h2, _⟩
  · omega
  · unfold maxLen at h2; omega
/-- Bytes that came in. -/
theorem rb_of_isRow {w : World} {a : Option Addr} {len cap : Nat} {zs : List Int} (h : IsRow .u8 w a len cap zs) : ∃ bs : List UInt8, bs.length = len ∧ RB w w.heap.size a bs := by
  rcases h with ⟨rfl, rfl, rfl, rfl⟩ | ⟨x, rfl, hl, hm, hz, hc, hw⟩
  · exact ⟨[], rfl, fun h => by simp at h⟩
  · refine ⟨(zs.take len).map fun z => UInt8.ofNat z.toNat, by simp; omega, fun hpos => ?_⟩
    simp only [List.length_map, List.length_take] at hpos
    obtain ⟨b, off, spot⟩ := x
    have h0 := hc 0 (by omega)
    have hs : spot = none := by simpa [Addr.add] using World.cell?_spot h0
    subst hs
    refine ⟨b, off, rfl, ?_, fun i hi => ?_⟩
    · have := block_lt_of_cell h0
      simpa [Addr.add] using this
    · simp only [List.length_map, List.length_take] at hi
      have hci := hc i (by omega)
      rw [Addr.add_lit] at hci
      rw [hci]
      have hzi : i < zs.length := by omega
      have hmem : zs[i] ∈ zs := List.getElem_mem hzi
      have hwf := hw _ hmem
      have hb : 0 ≤ zs[i] ∧ zs[i] ≤ 255 := by
        simp [Lit.wf, IntKind.min, IntKind.max, IntKind.bits, IntKind.signed] at hwf
        omega
      congr 2
      have e1 : zs.getD i 0 = zs[i] := by simp [List.getD, hzi]
      rw [e1]
      simp [byt, List.getD, show i < len by omega, hzi]
      omega

theorem wf_bounds_i64 {x : Int} (h : (Lit.int .i64 x).wf = true) : -9223372036854775808 ≤ x ∧ x ≤ 9223372036854775807 := by
  simp [Lit.wf, IntKind.min, IntKind.max, IntKind.bits, IntKind.signed] at h
  omega
theorem wf_bounds_u8 {x : Int} (h : (Lit.int .u8 x).wf = true) : 0 ≤ x ∧ x ≤ 255 := by
  simp [Lit.wf, IntKind.min, IntKind.max, IntKind.bits, IntKind.signed] at h
  omega

/-! ### Laws of the walk over blocks known whole -/
section
variable {P : Program}
/-- 'make([]T, n)', one cell an element: a new block. -/
theorem wpList_make_blk (w : World) {ops : Array Oper} {rest : List Oper} {o : Oper} {a : Act} {Q : Exit → Act → World → Prop}
    (hg : o.guard = none) (l c : Operand) (t : TypeId) (hop : o.op = Op.makeSlice t l c)
    (e : TypeId) (z : Value) (bytes : Nat) (h1 : P.underlying t = some (.slice e)) (hinfo : (P.info? e).map (fun i => (i.zero, i.size, i.bytes)) = some (some z, 1, bytes)) (hz : z.cells = #[z])
    (kl kc : IntKind) (L C : Int) (n : Nat) (hl : a.eval l = .int kl L) (hc : a.eval c = .int kc C) (hL : L = (n : Int)) (hC : C = (n : Int)) (b2 : bytes * n ≤ 281474976710656) (b3 : n ≤ 9223372036854775807)
    (hK : ∀ w', Hid (Blk w' w.heap.size e (reps n z)) → w.grownBy w' none → w'.heap.size = w.heap.size + 1 → wpList P ops Q rest (a.put o.dst (.slice (some ⟨w.heap.size, 0, none⟩) n n)) w') :
    wpList P ops Q (o :: rest) a w := by
  obtain ⟨i, hi, hz0, hz1, hz2⟩ := info_parts hinfo
  subst hL hC
  have hb' : (i.bytes : Int) * (n : Int) ≤ 281474976710656 := by
    rw [hz2]
    have : ((bytes * n : Nat) : Int) ≤ 281474976710656 := by omega
    rwa [Int.natCast_mul] at this
  have hr := run_make (P := P) w t e i z h1 hi hz0 kl kc n n (by omega) (by omega) hb' (by omega)
  simp only [Int.toNat_natCast] at hr
  refine wpList_plain hg fun K hK' => ?_
  unfold Oper.wp
  simp [execOp, hop, hl, hc, hr, Result.andThen]
  refine hK' _ _ (hK _ ?_ (World.grownBy_alloc w _ none) (by simp))
  have hm : madeCells z.cells (n * i.size) = (reps n z).toArray := by
    rw [hz1, hz]
    apply Array.ext
    · simp [madeCells, reps]
    · intro j h1 h2
      simp [madeCells, reps, Nat.mod_one]
  rw [hm]
  exact Blk.new _ _ _
/-- 'copy(dst, src)' of bytes into a block that is known whole. -/
theorem wpList_copy_bytes (w : World) {ops : Array Oper} {rest : List Oper} {o : Oper} {a : Act} {Q : Exit → Act → World → Prop} (hgd : o.guard = none) (d s : Operand) (dT sT : TypeId)
    (ho : o.op = .call { callee := .builtin .copy, args := #[d, s], argTypes := #[dT, sT] }) (elem : TypeId) (hu : P.underlying dT = some (.slice elem)) (hsz : (P.info? elem).map (·.size) = some 1)
    (g off dLen dCap sLen sCap : Nat) (sp : Option Addr) (hd : a.eval d = .slice (some ⟨g, off, none⟩) dLen dCap) (hs : a.eval s = .slice sp sLen sCap)
    (cur ss : List UInt8) (t : TypeId) (B : Nat) (hg : Blk w g t (bys cur)) (hsl : ss.length = sLen) (hr : RB w B sp ss) (hfit : off + dLen ≤ cur.length)
    (hK : ∀ w', Hid (Blk w' g t (bys (splice cur off (ss.take dLen)))) → w.grownBy w' (some g) → w'.heap.size = w.heap.size → wpList P ops Q rest (a.put o.dst (goInt (ss.take dLen).length)) w') :
    wpList P ops Q (o :: rest) a w := by
  have hn : (bys (ss.take dLen)).length = Nat.min sLen dLen := by rw [length_bys, List.length_take, hsl]; exact Nat.min_comm _ _
  by_cases h0 : (ss.take dLen).length = 0
  · have e0 : ss.take dLen = [] := List.eq_nil_of_length_eq_zero h0
    rw [e0] at hK hn
    refine wpList_copy_nothing hgd d s dT sT ho elem hu hsz _ sp dLen dCap sLen sCap hd hs hn.symm ?_
    refine hK w ?_ (World.grownBy.refl _ _) rfl
    show Blk _ _ _ _
    simpa [splice] using hg
  · have hpos : 0 < ss.length := by rw [List.length_take] at h0; omega
    obtain ⟨b, so, rfl, _, hc⟩ := hr hpos
    refine wpList_copy_own hgd d s dT sT ho elem hu hsz g off dLen dCap ⟨b, so, none⟩ sLen sCap hd hs (bys cur).toArray t hg (bys (ss.take dLen)) hn ?_ ?_ (bys_one _) ?_
    · intro j v hv
      obtain ⟨hj, rfl⟩ := bys_get_of hv
      rw [List.length_take] at hj
      rw [Addr.add_lit, hc j (by omega)]
      simp [byt, List.getD, show j < dLen by omega]
    · rw [length_bys, List.length_take]
      simp [length_bys]
      omega
    · rw [length_bys]
      refine hK _ ?_ ⟨rfl, rfl, rfl, by simp [World.setRow], fun k hk hne => setRow_other w g k _ (fun e => hne (by rw [e]))⟩ (by simp [World.setRow])
      show Blk _ _ _ _
      rw [← bys_splice]
      unfold Blk splice
      rw [setRow_heap w g _ _ t _ hg]
      simp [length_bys]
end
end Go.Proofs.YtepeehjajhehfaaGreatDoor
