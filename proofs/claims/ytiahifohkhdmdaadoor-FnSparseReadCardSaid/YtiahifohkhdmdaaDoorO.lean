/- Words on rows that a call owns, and laws of the walk on append and on string(bytes): over any program. No condition. -/
import Derived.Test.YtiahifohkhdmdaaDoorW
import Derived.Laws.BytesString
import Derived.Laws.AppendOwnNone
namespace Go.Proofs.YtiahifohkhdmdaaDoor
open Go.RowKit

/-- A slice at A reads as the cells xs; it lies below block B. -/
def RC (w : World) (B : Nat) (A : Option Addr) (xs : List Value) : Prop :=
  0 < xs.length → ∃ b off, A = some ⟨b, off, none⟩ ∧ b < B ∧ ∀ i v, xs[i]? = some v → w.cell? ⟨b, off + i, none⟩ = some v
section
variable {w w' : World} {B B' : Nat} {A : Option Addr} {xs : List Value} {bs : List UInt8}
theorem RC.keep (h : RC w B A xs) (hk : ∀ p : Addr, p.block < B → w'.cell? p = w.cell? p) : RC w' B A xs := fun hn => by
  obtain ⟨b, off, e, hb, hc⟩ := h hn
  exact ⟨b, off, e, hb, fun i v hi => (hk _ hb).trans (hc i v hi)⟩
theorem RC.more (h : RC w B A xs) (hB : B ≤ B') : RC w B' A xs := fun hn => by
  obtain ⟨b, off, e, hb, hc⟩ := h hn
  exact ⟨b, off, e, by omega, hc⟩
theorem RC.below (h : RC w B A xs) (hb : Below B w w') : RC w' B A xs := h.keep fun _ hp => hb.cell hp
theorem RC.drewN (h : RC w B A xs) (k : Nat) : RC (w.drewN k) B A xs := h
theorem RC.alloc (h : RC w B A xs) (hB : B ≤ w.heap.size) (o : Obj) : RC (w.alloc o) B A xs := h.keep fun p hp => World.cell?_alloc_lt w o p (by omega)
theorem RC.setCell (h : RC w B A xs) {p : Addr} (hB : B ≤ p.block) (u : Value) : RC (w.setCell p u) B A xs :=
  h.keep fun q hq => World.cell?_setCell_other w p q u (fun e => by subst e; omega)
theorem RC.grown (h : RC w B A xs) {row : Option Nat} (hg : w.grownBy w' row) (hB : B ≤ w.heap.size) (hr : ∀ g, row = some g → B ≤ g) : RC w' B A xs := h.below (grownBy_below hg hB hr)
theorem RC.of_blk {g : Nat} {t : TypeId} (h : Blk w g t xs) : RC w (g + 1) (some ⟨g, 0, none⟩) xs := fun _ =>
  ⟨g, 0, rfl, by omega, fun i v hi => by rw [Nat.zero_add, h.cell, hi]⟩
theorem RC.nil_ : RC w B A [] := fun h => by simp at h
theorem RC.of_RB (h : RB w B A bs) : RC w B A (bys bs) := fun hn => by
  rw [length_bys] at hn
  obtain ⟨b, off, e, hb, hc⟩ := h hn
  refine ⟨b, off, e, hb, fun i v hi => ?_⟩
  obtain ⟨hl, rfl⟩ := bys_get_of hi
  exact hc i hl
theorem RB.of_RC (h : RC w B A (bys bs)) : RB w B A bs := fun hn => by
  obtain ⟨b, off, e, hb, hc⟩ := h (by rw [length_bys]; exact hn)
  exact ⟨b, off, e, hb, fun i hi => hc i _ (bys_get bs i hi)⟩
theorem RC.of_own {base n c : Nat} {e : TypeId} {size : Nat} (h : w.ownsRow base e size (.slice A n c) n xs) : RC w w.heap.size A xs := fun hn => by
  rcases h.2 with ⟨h1, h2⟩ | ⟨g, cap, cur, hv, _, hh, _⟩
  · have := h.1; simp only [h2, Nat.zero_mul] at this; omega
  · injection hv with hA _ _
    subst hA
    have hlt : g < w.heap.size := by
      rcases Nat.lt_or_ge g w.heap.size with hlt | hge
      · exact hlt
      · rw [Array.getElem?_eq_none hge] at hh; cases hh
    refine ⟨g, 0, rfl, hlt, fun i v hi => ?_⟩
    have := h.cells (g := g) rfl i v hi
    rwa [Addr.add_lit] at this
end

theorem isRow_le {k : IntKind} {w : World} {a : Option Addr} {len cap : Nat} {zs : List Int} (h : IsRow k w a len cap zs) : len ≤ cap := by
  rcases h with ⟨_, rfl, rfl, _⟩ | ⟨_, _, h1, _⟩
  · exact Nat.le_refl _
  · exact h1

/-- What an owned row's value looks like. -/
theorem own_form {w : World} {base n : Nat} {e : TypeId} {size : Nat} {v : Value} {xs : List Value} (h : w.ownsRow base e size v n xs) : ∃ A c, v = .slice A n c ∧ (A = none → c = 0) ∧ n ≤ c ∧ ∀ ad, A = some ad → base ≤ ad.block ∧ ad.block < w.heap.size ∧ ad.off = 0 ∧ ad.spot = none := by
  rcases h.2 with ⟨rfl, rfl⟩ | ⟨g, cap, cur, rfl, hb, hh, hn, _⟩
  · exact ⟨none, 0, rfl, fun _ => rfl, Nat.le_refl _, fun _ h => by cases h⟩
  · refine ⟨_, cap, rfl, (fun h => by cases h), hn, fun ad h => ?_⟩
    obtain rfl := Option.some.inj h
    refine ⟨hb, ?_, rfl, rfl⟩
    rcases Nat.lt_or_ge g w.heap.size with hlt | hge
    · exact hlt
    · rw [Array.getElem?_eq_none hge] at hh; cases hh
theorem own_below {w w' : World} {base n B : Nat} {e : TypeId} {size : Nat} {v : Value} {xs : List Value} (h : w.ownsRow base e size v n xs) (hb : Below B w w') (hB : w.heap.size ≤ B) : w'.ownsRow base e size v n xs := by
  refine ⟨h.1, ?_⟩
  rcases h.2 with h2 | ⟨g, cap, cur, hv, hg, hh, r⟩
  · exact .inl h2
  · refine .inr ⟨g, cap, cur, hv, hg, ?_, r⟩
    rw [hb.block g ?_]
    · exact hh
    · rcases Nat.lt_or_ge g w.heap.size with hlt | hge
      · omega
      · rw [Array.getElem?_eq_none hge] at hh; cases hh

section
variable {P : Program}
theorem run_append_none (w : World) (base : Nat) (t ty e : TypeId) (i : TypeInfo) (size : Nat) (ht : P.underlying t = some (.slice e)) (hi : P.info? e = some i)
    (v : Value) (n : Nat) (xs : List Value) (hown : w.ownsRow base e size v n xs) (c : Nat) : (Builtin.append_ #[t, t] ty #[v, .slice none 0 c]).run P w = .ok v w := by
  rcases hown.2 with ⟨rfl, rfl⟩ | ⟨g, cap, cur, rfl, _, _, hnc, _⟩
  · simp [Builtin.append_, run_underlying ht, sizeOf, typeInfo, hi, Builtin.lenOf, Builtin.firstCells]
  · simp [Builtin.append_, run_underlying ht, sizeOf, typeInfo, hi, Builtin.lenOf, Builtin.firstCells, hnc, storeCells]

/-- 'append(out, xs...)' onto a row of the call's own, the source nil, empty or not. -/
theorem wpList_append_rc (w : World) {ops : Array Oper} {rest : List Oper} {o : Oper} {a : Act} {Q : Exit → Act → World → Prop} (hgd : o.guard = none) (s x : Operand) (t : TypeId)
    (ho : o.op = .call { callee := .builtin .append, args := #[s, x], argTypes := #[t, t] })
    (base : Nat) (e : TypeId) (z : Value) (size bytes : Nat) (ht : P.underlying t = some (.slice e)) (hinfo : (P.info? e).map (fun i => (i.zero, i.size, i.bytes)) = some (some z, size, bytes)) (hzs : z.cells.size = size) (hsz : 0 < size)
    (v : Value) (n : Nat) (xs : List Value) (hs : a.eval s = v) (hown : w.ownsRow base e size v n xs)
    (A : Option Addr) (m c B : Nat) (news : List Value) (hx : a.eval x = .slice A m c) (hl : news.length = m * size) (hr : RC w B A news) (h1 : ∀ u ∈ news, u.oneCell' = true)
    (h63 : n + m ≤ 9223372036854775807) (hbytes : (n + m) * bytes ≤ 140737488355328) (hbase : base ≤ w.heap.size)
    (hK : ∀ v' w', Hid (w'.ownsRow base e size v' (n + m) (xs ++ news)) → Hid (w.grownBy w' v.ownBlock) → Hid (v' = .slice none 0 0 ↔ v = .slice none 0 0 ∧ m = 0) → wpList P ops Q rest (a.put o.dst v') w') : wpList P ops Q (o :: rest) a w := by
  obtain ⟨i, hi, hz0, hz1, hz2⟩ := info_parts hinfo
  cases A with
  | none =>
    have hm : m = 0 := by
      rcases Nat.eq_zero_or_pos m with h | h
      · exact h
      · have : 0 < news.length := by rw [hl]; exact Nat.mul_pos h hsz
        obtain ⟨b, off, hA, _⟩ := hr this
        cases hA
    subst hm
    have hn : news = [] := List.eq_nil_of_length_eq_zero (by simpa using hl)
    subst hn
    refine wpList_plain hgd fun K hK' => ?_
    have hrun := run_append_none (P := P) w base t o.type e i size ht hi v n xs hown c
    unfold Oper.wp execOp
    simp only [ho, resolve, invoke, builtin, Sem.run_bind, Sem.run_pure, Result.andThen_ok, List.map_toArray, List.map_cons, List.map_nil, hs, hx, hrun]
    refine hK' _ _ (hK v w ?_ ?_ ?_)
    · show w.ownsRow _ _ _ _ _ _
      simpa using hown
    · exact World.grownBy.refl w _
    · show _ ↔ _
      simp
  | some ad =>
    refine wpList_append_own w hgd s x t ho base e i z size bytes ht hi hz0 hz1 hz2 hzs hsz v n xs hs hown ad m c news hx hl ?_ h1 (by unfold maxLen; omega) hbytes hbase (fun v' w' h2 h3 h4 => hK v' w' h2 h3 h4)
    intro j u hu
    have hpos : 0 < news.length := by
      have := (List.getElem?_eq_some_iff.1 hu).1
      omega
    obtain ⟨b, off, hA, _, hc⟩ := hr hpos
    obtain rfl := Option.some.inj hA
    rw [Addr.add_lit]
    exact hc j u hu

/-- The string of some bytes. -/
def mkS (bs : List UInt8) : ByteArray := ⟨bs.toArray⟩
theorem foldl_push_bys : ∀ (bs : List UInt8) (s : ByteArray), (bs.map fun b => (b.toNat : Int)).foldl (fun r n => r.push (UInt8.ofNat n.toNat)) s = ⟨s.data ++ bs.toArray⟩
  | [], s => by cases s; simp
  | b :: bs, s => by
    rw [List.map_cons, List.foldl_cons, foldl_push_bys bs]
    cases s
    simp [ByteArray.push]
theorem run_conv_bytes (w : World) (src dst e : TypeId) (hs : P.underlying src = some (.slice e)) (he : P.underlying e = some (.int .u8)) (hd : P.underlying dst = some .string)
    (A : Option Addr) (l c B : Nat) (bs : List UInt8) (hl : bs.length = l) (hr : RB w B A bs) : (convert src dst (.slice A l c)).run P w = .ok (.string (mkS bs)) w := by
  rw [run_convert_bytes_string w src dst e A l c hs he hd]
  by_cases h0 : bs = []
  · subst h0
    obtain rfl : l = 0 := by simpa using hl.symm
    cases A with
    | none => simp [Conv.bytesToString, mkS]; rfl
    | some ad =>
      have := run_bytesToString (P := P) w ad 0 c [] (by simp [loadCells, loadCellsFrom])
      rw [this]
      rfl
  · have hpos : 0 < bs.length := List.length_pos_iff.2 h0
    obtain ⟨b, off, rfl, _, hc⟩ := hr hpos
    have hload := run_loadCells_list (P := P) w ⟨b, off, none⟩ (bys bs) (fun j v hv => by
      obtain ⟨hj, rfl⟩ := bys_get_of hv
      rw [Addr.add_lit]
      exact hc j hj)
    rw [length_bys, hl] at hload
    have hm : bys bs = (bs.map fun b => (b.toNat : Int)).map (Value.int .u8) := by simp [bys]
    rw [hm] at hload
    rw [run_bytesToString w _ l c _ hload, foldl_push_bys]
    simp [mkS]
theorem wpList_conv_bytes (w : World) {ops : Array Oper} {rest : List Oper} {o : Oper} {a : Act} {Q : Exit → Act → World → Prop} (hgd : o.guard = none) (x : Operand) (src dst e : TypeId)
    (ho : o.op = .convert src dst x) (hs : P.underlying src = some (.slice e)) (he : P.underlying e = some (.int .u8)) (hd : P.underlying dst = some .string)
    (A : Option Addr) (l c B : Nat) (bs : List UInt8) (hx : a.eval x = .slice A l c) (hl : bs.length = l) (hr : RB w B A bs)
    (hK : wpList P ops Q rest (a.put o.dst (.string (mkS bs))) w) : wpList P ops Q (o :: rest) a w := by
  refine wpList_plain hgd fun K hK' => ?_
  have hrun := run_conv_bytes w src dst e hs he hd A l c B bs hl hr
  unfold Oper.wp
  simp [execOp, ho, hx, hrun, Result.andThen]
  exact hK' _ _ hK
end
end Go.Proofs.YtiahifohkhdmdaaDoor
