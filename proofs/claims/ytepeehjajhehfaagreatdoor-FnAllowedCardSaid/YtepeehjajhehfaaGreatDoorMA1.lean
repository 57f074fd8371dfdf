/- Words on bytes in memory: plain definitions and lemmas over any program. No condition. Words on rows that a call owns, and laws of the walk on append and on string(bytes): over any program. No condition. A frame that names the blocks a call may turn. Over any program. No condition. A header of package spec as a value and as a block. Numbers that came in, as a row of cells. -/
import Derived.WalkKit
import Derived.WalkSpells
import Derived.WalkLawsBesides
import Derived.Handy
import Derived.PlainAid
import Derived.Lib.Hide
import Derived.Laws.CopyOwn
import Derived.Laws.MakeOwn
import Derived.BigQuiet
import Derived.Deep.QuietTactic
import Derived.Deep.Draws
import Derived.Laws.BytesString
import Derived.Laws.AppendOwnNone
import Derived.Lib.SliceRun
import Derived.Deep.Upon
import Derived.Test.YtepeehjajhehfaaGreatDoorRows
namespace Go.Proofs.YtepeehjajhehfaaGreatDoor
open Go.RowKit

theorem val_i64 {a b : Int} (h : a = b) : Value.int .i64 a = Value.int .i64 b := by rw [h]
/-- What a call leaves that returns v and at most draws. -/
def Quietly (v : Value) (w : World) (e : Ending) (w' : World) : Prop := e = .returned v ∧ ∃ n, w' = w.drewN n

/-! ### Bytes -/
/-- Byte k of a list as a number. -/
def byt (bs : List UInt8) (k : Nat) : Int := ((bs.getD k 0).toNat : Int)
/-- The cells of a list of bytes. -/
def bys (bs : List UInt8) : List Value := bs.map fun b => Value.int .u8 (b.toNat : Int)
theorem bys_get (bs : List UInt8) (k : Nat) (h : k < bs.length) : (bys bs)[k]? = some (.int .u8 (byt bs k)) := by
  simp [bys, byt, List.getD, h]
/-! ### A block that is known whole -/
def Blk (w : World) (g : Nat) (t : TypeId) (xs : List Value) : Prop := w.heap[g]? = some (.cells xs.toArray t (0, 0))
section
variable {w w' : World} {g : Nat} {t : TypeId} {xs : List Value}
theorem Blk.lt (h : Blk w g t xs) : g < w.heap.size := by
  rcases Nat.lt_or_ge g w.heap.size with hlt | hge
  · exact hlt
  · unfold Blk at h; rw [Array.getElem?_eq_none hge] at h; cases h
theorem Blk.cell (h : Blk w g t xs) (i : Nat) : w.cell? ⟨g, i, none⟩ = xs[i]? := by
  rw [cell_of_row w g i _ t (0, 0) h]; simp
theorem Blk.frozen (h : Blk w g t xs) (i : Nat) : w.frozen? ⟨g, i, none⟩ = false := frozen_of_row w g i _ t h
theorem Blk.alloc (h : Blk w g t xs) (o : Obj) : Blk (w.alloc o) g t xs := (Below.heap_alloc w o g h.lt).trans h
theorem Blk.drewN (h : Blk w g t xs) (n : Nat) : Blk (w.drewN n) g t xs := h
theorem Blk.grown {row : Option Nat} (h : Blk w g t xs) (hb : w.grownBy w' row) (hg : some g ≠ row) : Blk w' g t xs := (hb.block g h.lt hg).trans h
theorem Blk.below {B : Nat} (h : Blk w g t xs) (hb : Below B w w') (hg : g < B) : Blk w' g t xs := (hb.block g hg).trans h
theorem Blk.set_ (h : Blk w g t xs) (i : Nat) (u : Value) : Blk (w.setCell ⟨g, i, none⟩ u) g t (xs.set i u) := by
  unfold Blk at h ⊢
  simp [World.setCell, Array.getElem?_modify, h]
theorem Blk.far (h : Blk w g t xs) {p : Addr} (hp : g ≠ p.block) (u : Value) : Blk (w.setCell p u) g t xs := (Below.heap_setCell w p u g hp).trans h
end
theorem Blk.new (w : World) (t : TypeId) (xs : List Value) : Blk (w.alloc (.cells xs.toArray t)) w.heap.size t xs := heap_alloc_new w _
theorem below_drewN {B : Nat} {a w : World} (h : Below B a w) (n : Nat) : Below B a (w.drewN n) := ⟨h.os, h.tape, h.output, h.size, h.block⟩
theorem grownBy_below {w w' : World} {row : Option Nat} (h : w.grownBy w' row) {B : Nat} (hB : B ≤ w.heap.size) (hr : ∀ k, row = some k → B ≤ k) : Below B w w' := (Below.refl B w).grown h hB hr

/-- A slice at A reads as the bytes bs; it lies below block B. -/
def RB (w : World) (B : Nat) (A : Option Addr) (bs : List UInt8) : Prop :=
  0 < bs.length → ∃ b off, A = some ⟨b, off, none⟩ ∧ b < B ∧ ∀ i, i < bs.length → w.cell? ⟨b, off + i, none⟩ = some (.int .u8 (byt bs i))
section
variable {w w' : World} {B B' : Nat} {A : Option Addr} {bs : List UInt8}
theorem RB.keep (h : RB w B A bs) (hk : ∀ p : Addr, p.block < B → w'.cell? p = w.cell? p) : RB w' B A bs := fun hn => by
  obtain ⟨b, off, e, hb, hc⟩ := h hn
  exact ⟨b, off, e, hb, fun i hi => (hk _ hb).trans (hc i hi)⟩
theorem RB.more (h : RB w B A bs) (hB : B ≤ B') : RB w B' A bs := fun hn => by
  obtain ⟨b, off, e, hb, hc⟩ := h hn
  exact ⟨b, off, e, by omega, hc⟩
theorem RB.below (h : RB w B A bs) (hb : Below B w w') : RB w' B A bs := h.keep fun _ hp => hb.cell hp
theorem RB.drewN (h : RB w B A bs) (k : Nat) : RB (w.drewN k) B A bs := h
theorem RB.alloc (h : RB w B A bs) (hB : B ≤ w.heap.size) (o : Obj) : RB (w.alloc o) B A bs := h.keep fun p hp => World.cell?_alloc_lt w o p (by omega)
theorem RB.setCell (h : RB w B A bs) {p : Addr} (hB : B ≤ p.block) (u : Value) : RB (w.setCell p u) B A bs :=
  h.keep fun q hq => World.cell?_setCell_other w p q u (fun e => by subst e; omega)
theorem RB.grown (h : RB w B A bs) {row : Option Nat} (hg : w.grownBy w' row) (hB : B ≤ w.heap.size) (hr : ∀ g, row = some g → B ≤ g) : RB w' B A bs := h.below (grownBy_below hg hB hr)
theorem RB.of_blk {g : Nat} {t : TypeId} {xs : List UInt8} (h : Blk w g t (bys xs)) : RB w (g + 1) (some ⟨g, 0, none⟩) xs := fun _ =>
  ⟨g, 0, rfl, by omega, fun i hi => by rw [Nat.zero_add, h.cell, bys_get xs i hi]⟩
theorem RB.take (h : RB w B A bs) (n : Nat) : RB w B A (bs.take n) := fun hn => by
  rw [List.length_take] at hn
  obtain ⟨b, off, e, hb, hc⟩ := h (by omega)
  refine ⟨b, off, e, hb, fun i hi => ?_⟩
  rw [List.length_take] at hi
  rw [hc i (by omega)]
  simp [byt, List.getD, show i < n by omega]
end

/-! ### Laws of the walk over blocks known whole -/
section
variable {P : Program}
end
end Go.Proofs.YtepeehjajhehfaaGreatDoor
namespace Go.Proofs.YtepeehjajhehfaaGreatDoor
open Go.RowKit

/-- A slice at A reads as the cells xs; it lies below block B. -/
def RC (w : World) (B : Nat) (A : Option Addr) (xs : List Value) : Prop :=
  0 < xs.length → ∃ b off, A = some ⟨b, off, none⟩ ∧ b < B ∧ ∀ i v, xs[i]? = some v → w.cell? ⟨b, off + i, none⟩ = some v
section
variable {w w' : World} {B B' : Nat} {A : Option Addr} {xs : List Value} {bs : List UInt8}
theorem RC.keep (h : RC w B A xs) (hk : ∀ p : Addr, p.block < B → w'.cell? p = w.cell? p) : RC w' B A xs := fun hn => by
  obtain ⟨b, off, e, hb, hc⟩ := h hn
  exact ⟨b, off, e, hb, fun i v hi => (hk _ hb).trans (hc i v hi)⟩
theorem RC.more (h : RC w B A xs) (hB : B ≤ B') : RC w B' A xs := fun hn => by
  obtain ⟨b, off, e, hb, hc⟩ := h hn
  exact ⟨b, off, e, by omega, hc⟩
theorem RC.below (h : RC w B A xs) (hb : Below B w w') : RC w' B A xs := h.keep fun _ hp => hb.cell hp
theorem RC.drewN (h : RC w B A xs) (k : Nat) : RC (w.drewN k) B A xs := h
theorem RC.alloc (h : RC w B A xs) (hB : B ≤ w.heap.size) (o : Obj) : RC (w.alloc o) B A xs := h.keep fun p hp => World.cell?_alloc_lt w o p (by omega)
theorem RC.setCell (h : RC w B A xs) {p : Addr} (hB : B ≤ p.block) (u : Value) : RC (w.setCell p u) B A xs :=
  h.keep fun q hq => World.cell?_setCell_other w p q u (fun e => by subst e; omega)
theorem RC.grown (h : RC w B A xs) {row : Option Nat} (hg : w.grownBy w' row) (hB : B ≤ w.heap.size) (hr : ∀ g, row = some g → B ≤ g) : RC w' B A xs := h.below (grownBy_below hg hB hr)
theorem RC.of_blk {g : Nat} {t : TypeId} (h : Blk w g t xs) : RC w (g + 1) (some ⟨g, 0, none⟩) xs := fun _ =>
  ⟨g, 0, rfl, by omega, fun i v hi => by rw [Nat.zero_add, h.cell, hi]⟩
theorem RC.nil_ : RC w B A [] := fun h => by simp at h
theorem RC.of_own {base n c : Nat} {e : TypeId} {size : Nat} (h : w.ownsRow base e size (.slice A n c) n xs) : RC w w.heap.size A xs := fun hn => by
  rcases h.2 with ⟨h1, h2⟩ | ⟨g, cap, cur, hv, _, hh, _⟩
  · have := h.1; simp only [h2, Nat.zero_mul] at this; omega
  · injection hv with hA _ _
    subst hA
    have hlt : g < w.heap.size := by
      rcases Nat.lt_or_ge g w.heap.size with hlt | hge
      · exact hlt
      · rw [Array.getElem?_eq_none hge] at hh; cases hh
    refine ⟨g, 0, rfl, hlt, fun i v hi => ?_⟩
    have := h.cells (g := g) rfl i v hi
    rwa [Addr.add_lit] at this
end

/-- What an owned row's value looks like. -/
theorem own_form {w : World} {base n : Nat} {e : TypeId} {size : Nat} {v : Value} {xs : List Value} (h : w.ownsRow base e size v n xs) : ∃ A c, v = .slice A n c ∧ (A = none → c = 0) ∧ n ≤ c ∧ ∀ ad, A = some ad → base ≤ ad.block ∧ ad.block < w.heap.size ∧ ad.off = 0 ∧ ad.spot = none := by
  rcases h.2 with ⟨rfl, rfl⟩ | ⟨g, cap, cur, rfl, hb, hh, hn, _⟩
  · exact ⟨none, 0, rfl, fun _ => rfl, Nat.le_refl _, fun _ h => by cases h⟩
  · refine ⟨_, cap, rfl, (fun h => by cases h), hn, fun ad h => ?_⟩
    obtain rfl := Option.some.inj h
    refine ⟨hb, ?_, rfl, rfl⟩
    rcases Nat.lt_or_ge g w.heap.size with hlt | hge
    · exact hlt
    · rw [Array.getElem?_eq_none hge] at hh; cases hh
section
variable {P : Program}
theorem run_append_none (w : World) (base : Nat) (t ty e : TypeId) (i : TypeInfo) (size : Nat) (ht : P.underlying t = some (.slice e)) (hi : P.info? e = some i)
    (v : Value) (n : Nat) (xs : List Value) (hown : w.ownsRow base e size v n xs) (c : Nat) : (Builtin.append_ #[t, t] ty #[v, .slice none 0 c]).run P w = .ok v w := by
  rcases hown.2 with ⟨rfl, rfl⟩ | ⟨g, cap, cur, rfl, _, _, hnc, _⟩
  · simp [Builtin.append_, run_underlying ht, sizeOf, typeInfo, hi, Builtin.lenOf, Builtin.firstCells]
  · simp [Builtin.append_, run_underlying ht, sizeOf, typeInfo, hi, Builtin.lenOf, Builtin.firstCells, hnc, storeCells]

/-- 'append(out, xs...)' onto a row of the call's own, the source nil, empty or not. -/
theorem wpList_append_rc (w : World) {ops : Array Oper} {rest : List Oper} {o : Oper} {a : Act} {Q : Exit → Act → World → Prop} (hgd : o.guard = none) (s x : Operand) (t : TypeId)
    (ho : o.op = .call { callee := .builtin .append, args := #[s, x], argTypes := #[t, t] })
    (base : Nat) (e : TypeId) (z : Value) (size bytes : Nat) (ht : P.underlying t = some (.slice e)) (hinfo : (P.info? e).map (fun i => (i.zero, i.size, i.bytes)) = some (some z, size, bytes)) (hzs : z.cells.size = size) (hsz : 0 < size)
    (v : Value) (n : Nat) (xs : List Value) (hs : a.eval s = v) (hown : w.ownsRow base e size v n xs)
    (A : Option Addr) (m c B : Nat) (news : List Value) (hx : a.eval x = .slice A m c) (hl : news.length = m * size) (hr : RC w B A news) (h1 : ∀ u ∈ news, u.oneCell' = true)
    (h63 : n + m ≤ 9223372036854775807) (hbytes : (n + m) * bytes ≤ 140737488355328) (hbase : base ≤ w.heap.size)
    (hK : ∀ v' w', Hid (w'.ownsRow base e size v' (n + m) (xs ++ news)) → Hid (w.grownBy w' v.ownBlock) → Hid (v' = .slice none 0 0 ↔ v = .slice none 0 0 ∧ m = 0) → wpList P ops Q rest (a.put o.dst v') w') : wpList P ops Q (o :: rest) a w := by
  obtain ⟨i, hi, hz0, hz1, hz2⟩ := info_parts hinfo
  cases A with
  | none =>
    have hm : m = 0 := by
      rcases Nat.eq_zero_or_pos m with h | h
      · exact h
      · have : 0 < news.length := by rw [hl]; exact Nat.mul_pos h hsz
        obtain ⟨b, off, hA, _⟩ := hr this
        cases hA
    subst hm
    have hn : news = [] := List.eq_nil_of_length_eq_zero (by simpa using hl)
    subst hn
    refine wpList_plain hgd fun K hK' => ?_
    have hrun := run_append_none (P := P) w base t o.type e i size ht hi v n xs hown c
    unfold Oper.wp execOp
    simp only [ho, resolve, invoke, builtin, Sem.run_bind, Sem.run_pure, Result.andThen_ok, List.map_toArray, List.map_cons, List.map_nil, hs, hx, hrun]
    refine hK' _ _ (hK v w ?_ ?_ ?_)
    · show w.ownsRow _ _ _ _ _ _
      simpa using hown
    · exact World.grownBy.refl w _
    · show _ ↔ _
      simp
  | some ad =>
    refine wpList_append_own w hgd s x t ho base e i z size bytes ht hi hz0 hz1 hz2 hzs hsz v n xs hs hown ad m c news hx hl ?_ h1 (by unfold maxLen; omega) hbytes hbase (fun v' w' h2 h3 h4 => hK v' w' h2 h3 h4)
    intro j u hu
    have hpos : 0 < news.length := by
      have := (List.getElem?_eq_some_iff.1 hu).1
      omega
    obtain ⟨b, off, hA, _, hc⟩ := hr hpos
    obtain rfl := Option.some.inj hA
    rw [Addr.add_lit]
    exact hc j u hu

/-- The string of some bytes. -/
def mkS (bs : List UInt8) : ByteArray := ⟨bs.toArray⟩
end
end Go.Proofs.YtepeehjajhehfaaGreatDoor
namespace Go.Proofs.YtepeehjajhehfaaGreatDoor
open Go.RowKit
set_option linter.unusedVariables false

/-- Only the blocks of S, and new ones, may have turned. -/
structure Far (S : List Nat) (w w' : World) : Prop where
  os : w'.os = w.os
  tape : w'.tape = w.tape
  output : w'.output = w.output
  size : w.heap.size ≤ w'.heap.size
  block : ∀ k, k < w.heap.size → k ∉ S → w'.heap[k]? = w.heap[k]?
section
variable {S T : List Nat} {a w w' : World} {B g n : Nat} {t e : TypeId} {xs : List Value} {bs : List UInt8}
theorem Far.refl (S : List Nat) (w : World) : Far S w w := ⟨rfl, rfl, rfl, Nat.le_refl _, fun _ _ _ => rfl⟩
theorem Far.trans (h : Far S a w) (k : Far S w w') : Far S a w' :=
  ⟨k.os.trans h.os, k.tape.trans h.tape, k.output.trans h.output, Nat.le_trans h.size k.size, fun i hi hs => (k.block i (Nat.lt_of_lt_of_le hi h.size) hs).trans (h.block i hi hs)⟩
theorem Far.mono (h : Far S a w) (hs : ∀ k, k < a.heap.size → k ∈ S → k ∈ T) : Far T a w := ⟨h.os, h.tape, h.output, h.size, fun k hk ht => h.block k hk (fun hk' => ht (hs k hk hk'))⟩
theorem Far.drew (h : Far S a w) : Far S a w.drew := ⟨h.os, h.tape, h.output, h.size, h.block⟩
theorem Far.drewN (h : Far S a w) (n : Nat) : Far S a (w.drewN n) := ⟨h.os, h.tape, h.output, h.size, h.block⟩
theorem Far.of_below (h : Below a.heap.size a w) : Far S a w := ⟨h.os, h.tape, h.output, h.size, fun k hk _ => h.block k hk⟩
theorem Far.below (h : Far S a w) (hs : ∀ k ∈ S, B ≤ k) (hB : B ≤ a.heap.size) : Below B a w := ⟨h.os, h.tape, h.output, h.size, fun k hk => h.block k (by omega) (fun hk' => by have := hs k hk'; omega)⟩
theorem Far.alloc (h : Far S a w) (o : Obj) : Far S a (w.alloc o) := h.trans (Far.of_below ((Below.refl _ _).alloc (Nat.le_refl _) o))
theorem Far.of_grown {row : Option Nat} (h : a.grownBy w row) (hs : ∀ k, row = some k → k ∈ S) : Far S a w := ⟨h.os, h.tape, h.output, h.size, fun k hk hns => h.block k hk (fun hr => hns (hs k hr.symm))⟩
theorem Far.setCell (h : Far S a w) {p : Addr} (hp : p.block ∈ S ∨ a.heap.size ≤ p.block) (u : Value) : Far S a (w.setCell p u) :=
  ⟨h.os, h.tape, h.output, by simpa [World.setCell] using h.size, fun k hk hns => (Below.heap_setCell w p u k (by
    rintro rfl
    rcases hp with hp | hp
    · exact hns hp
    · omega)).trans (h.block k hk hns)⟩
theorem Far.cell (h : Far S w w') {p : Addr} (hp : p.block < w.heap.size) (hs : p.block ∉ S) : w'.cell? p = w.cell? p := World.cell?_of_block (h.block p.block hp hs)
theorem Blk.of_far (h : Blk w g t xs) (hf : Far S w w') (hg : g ∉ S) : Blk w' g t xs := (hf.block g h.lt hg).trans h
theorem RC.of_far {A : Option Addr} (h : RC w B A xs) (hf : Far S w w') (hB : B ≤ w.heap.size) (hA : ∀ ad, A = some ad → ad.block ∉ S) : RC w' B A xs := fun hn => by
  obtain ⟨b, off, e, hb, hc⟩ := h hn
  subst e
  exact ⟨b, off, rfl, hb, fun i v hv => (hf.cell (p := ⟨b, off + i, none⟩) (by show b < _; omega) (show b ∉ S from hA _ rfl)).trans (hc i v hv)⟩
theorem RB.of_far {A : Option Addr} (h : RB w B A bs) (hf : Far S w w') (hB : B ≤ w.heap.size) (hA : ∀ ad, A = some ad → ad.block ∉ S) : RB w' B A bs := fun hn => by
  obtain ⟨b, off, e, hb, hc⟩ := h hn
  subst e
  exact ⟨b, off, rfl, hb, fun i hi => (hf.cell (p := ⟨b, off + i, none⟩) (by show b < _; omega) (show b ∉ S from hA _ rfl)).trans (hc i hi)⟩
end
end Go.Proofs.YtepeehjajhehfaaGreatDoor
namespace Go.Proofs.YtepeehjajhehfaaGreatDoor
open Go.RowKit Go.PlainAid
set_option linter.unusedVariables false

structure Hd where
  ty : Int
  name : ByteArray
  link : ByteArray
  size : Int
  mode : Int
  uid : Int
  gid : Int
  un : ByteArray
  gn : ByteArray
  ms : Int
  mn : Int
  ha : Bool
  hc : Bool
  as_ : Int
  an : Int
  cs : Int
  cn : Int
  maj : Int
  min : Int
  rA : Option Addr
  rn : Nat
  rc : Nat
  fm : Int
/-- Its numbers are such, its strings no longer than any is. -/
structure Hd.Ok (h : Hd) : Prop where
  ty : 0 ≤ h.ty ∧ h.ty ≤ 255
  size : -9223372036854775808 ≤ h.size ∧ h.size ≤ 9223372036854775807
  mode : -9223372036854775808 ≤ h.mode ∧ h.mode ≤ 9223372036854775807
  uid : -9223372036854775808 ≤ h.uid ∧ h.uid ≤ 9223372036854775807
  gid : -9223372036854775808 ≤ h.gid ∧ h.gid ≤ 9223372036854775807
  ms : -9223372036854775808 ≤ h.ms ∧ h.ms ≤ 9223372036854775807
  mn : -9223372036854775808 ≤ h.mn ∧ h.mn ≤ 9223372036854775807
  as_ : -9223372036854775808 ≤ h.as_ ∧ h.as_ ≤ 9223372036854775807
  an : -9223372036854775808 ≤ h.an ∧ h.an ≤ 9223372036854775807
  cs : -9223372036854775808 ≤ h.cs ∧ h.cs ≤ 9223372036854775807
  cn : -9223372036854775808 ≤ h.cn ∧ h.cn ≤ 9223372036854775807
  maj : -9223372036854775808 ≤ h.maj ∧ h.maj ≤ 9223372036854775807
  min : -9223372036854775808 ≤ h.min ∧ h.min ≤ 9223372036854775807
  fm : -9223372036854775808 ≤ h.fm ∧ h.fm ≤ 9223372036854775807
  name : h.name.size ≤ 4611686018427387904
  link : h.link.size ≤ 4611686018427387904
  un : h.un.size ≤ 4611686018427387904
  gn : h.gn.size ≤ 4611686018427387904
def Hd.cells (h : Hd) : List Value := [.int .u8 h.ty, .string h.name, .string h.link, .int .i64 h.size, .int .i64 h.mode, .int .i64 h.uid, .int .i64 h.gid, .string h.un, .string h.gn, .int .i64 h.ms, .int .i64 h.mn, .bool h.ha, .bool h.hc, .int .i64 h.as_, .int .i64 h.an, .int .i64 h.cs, .int .i64 h.cn, .int .i64 h.maj, .int .i64 h.min, .slice h.rA h.rn h.rc, .int .i64 h.fm]
/-- The same as an array, which the walks leave alone. -/
def Hd.arr (h : Hd) : Array Value := h.cells.toArray
def Hd.val (h : Hd) : Value := .agg h.arr
theorem Hd.size_ (h : Hd) : (Tryz.prog.info? 32).map (·.size) = some h.arr.size := by
  show _ = some 21
  kernel_rfl
theorem Hd.blk (h : Hd) (w : World) (T : TypeId) : Blk (w.alloc (.cells h.arr T)) w.heap.size T h.cells := Blk.new w T h.cells
end Go.Proofs.YtepeehjajhehfaaGreatDoor
namespace Go.Proofs.YtepeehjajhehfaaGreatDoor
open Go.RowKit

def nums (ns : List Int) : List Value := ns.map (Value.int .i64)
def nv (ns : List Int) (k : Nat) : Int := ns.getD k 0
theorem length_nums (ns : List Int) : (nums ns).length = ns.length := by simp [nums]
theorem nums_get (ns : List Int) (k : Nat) (h : k < ns.length) : (nums ns)[k]? = some (.int .i64 (nv ns k)) := by simp [nums, nv, List.getD, h]
def Small (ns : List Int) : Prop := ∀ k, -9223372036854775808 ≤ nv ns k ∧ nv ns k ≤ 9223372036854775807
theorem RC.num {w : World} {B : Nat} {A : Option Addr} {ns : List Int} (h : RC w B A (nums ns)) {k : Nat} (hk : k < ns.length) :
    ∃ b off, A = some ⟨b, off, none⟩ ∧ b < B ∧ ∀ j, j < ns.length → w.cell? ⟨b, off + j, none⟩ = some (.int .i64 (nv ns j)) := by
  obtain ⟨b, off, hA, hb, hc⟩ := h (by rw [length_nums]; omega)
  exact ⟨b, off, hA, hb, fun j hj => hc _ _ (nums_get ns j hj)⟩

/-! ### The pieces of FnAlign -/
end Go.Proofs.YtepeehjajhehfaaGreatDoor
