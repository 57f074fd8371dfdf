/- FnRegWrite: parts of a file; zzFits9; ZZRegWrite's loop. -/
import Derived.Test.YtiahifohkhdmdaaDoorRegW
import Derived.Maps.AppendAt
namespace Go.Proofs.YtiahifohkhdmdaaDoor
open Go.RowKit Go.PlainAid
set_option linter.unusedVariables false

/-- A part: a slice of bytes. -/
structure Part where
  A : Option Addr
  n : Nat
  c : Nat
  bs : List UInt8
instance : Inhabited Part := ⟨⟨none, 0, 0, []⟩⟩
def Part.v (p : Part) : Value := .slice p.A p.n p.c
def psl (pl : List Part) : List Value := pl.map Part.v
structure PartOk (w : World) (B : Nat) (p : Part) : Prop where
  len : p.bs.length = p.n
  cap : p.n ≤ p.c
  nil : p.A = none → p.c = 0
  rb : RB w B p.A p.bs
theorem PartOk.below {w w' : World} {B C : Nat} {p : Part} (h : PartOk w B p) (hb : Below C w w') (hB : B ≤ C) : PartOk w' B p := ⟨h.len, h.cap, h.nil, fun hp => by
  obtain ⟨b, off, e, hlt, hc⟩ := h.rb hp
  exact ⟨b, off, e, hlt, fun i hi => (hb.cell (p := ⟨b, off + i, none⟩) (Nat.lt_of_lt_of_le hlt hB)).trans (hc i hi)⟩⟩
def pat (pl : List Part) (k : Nat) : Part := pl.getD k ⟨none, 0, 0, []⟩
theorem psl_get (pl : List Part) (k : Nat) (h : k < pl.length) : (psl pl)[k]? = some (pat pl k).v := by
  unfold psl pat
  rw [List.getElem?_map, List.getElem?_eq_getElem h, List.getD_eq_getElem?_getD, List.getElem?_eq_getElem h]
  rfl
theorem pat_mem (pl : List Part) (k : Nat) (h : k < pl.length) : pat pl k ∈ pl := by
  unfold pat
  rw [List.getD_eq_getElem?_getD, List.getElem?_eq_getElem h]
  exact List.getElem_mem h
theorem length_psl (pl : List Part) : (psl pl).length = pl.length := by simp [psl]
/-- The k-th part, as a walk wants it. -/
theorem RC.part {w : World} {B : Nat} {A : Option Addr} {pl : List Part} (h : RC w B A (psl pl)) {k : Nat} (hk : k < pl.length) :
    ∃ b off, A = some ⟨b, off, none⟩ ∧ b < B ∧ w.cell? ⟨b, off + k, none⟩ = some (.slice (pat pl k).A (pat pl k).n (pat pl k).c) := by
  obtain ⟨b, off, e, hb, hc⟩ := h (by rw [length_psl]; omega)
  exact ⟨b, off, e, hb, hc k _ (psl_get pl k hk)⟩

set_option maxRecDepth 20000 in
set_option maxHeartbeats 400000 in
theorem fits9 (A : Option Addr) (n c B : Nat) (pl : List Part) (w : World) (hn : pl.length = n) (hr : RC w B A (psl pl)) (hbig : n ≤ 1048576) (hs : ∀ p ∈ pl, p.n ≤ 1048576) :
    Calls Tryd.prog 12 #[.slice A n c] w fun e w' => e = .returned (.bool true) ∧ w = w' := by
  have HN := Lib.hid hn
  have HR := Lib.hid hr
  have HS := Lib.hid hs
  clear hn hr hs
  go_enter Tryd.func12, Tryd.ntmps12
  go_wp2
  go_loop [10] (fun v => ∃ k : Nat, k ≤ n ∧ v = .int .i64 k) (fun v => n - (intOf v).toNat)
  case atStart => exact ⟨0, by omega, rfl⟩
  case round =>
    obtain ⟨k, hk, rfl⟩ := hrel
    by_cases hlt : k < n
    · obtain ⟨b, off, hA, _, hc⟩ := HR.out.part (k := k) (by rw [HN.out]; exact hlt)
      subst hA
      have h1 := HS.out _ (pat_mem pl k (by rw [HN.out]; exact hlt))
      go_wp2
      go_round
      case rel => exact ⟨k + 1, by omega, by go_num⟩
      case measure => simp [intOf]; omega
    · obtain rfl : k = n := by omega
      go_wp2
      go_ret
      exact ⟨rfl, rfl⟩

/-! ### What the calls leave, in plain lists -/
def lft (S : Nat) (pl : List Part) : Nat → Nat
  | 0 => S
  | k + 1 => lft S pl k - min (pat pl k).n (lft S pl k)
def got (S : Nat) (pl : List Part) (k : Nat) : Nat := min (pat pl k).n (lft S pl k)
def endN (S : Nat) (pl : List Part) (k : Nat) : Int := if lft S pl k < (pat pl k).n then 3 else 0
def outB (S : Nat) (pl : List Part) : Nat → List UInt8
  | 0 => []
  | k + 1 => outB S pl k ++ (pat pl k).bs.take (got S pl k)
def nsV (S : Nat) (pl : List Part) (k : Nat) : List Value := (List.range k).map fun j => .int .i64 (got S pl j)
def endsV (S : Nat) (pl : List Part) (k : Nat) : List Value := (List.range k).map fun j => .int .i64 (endN S pl j)
theorem lft_le (S : Nat) (pl : List Part) : ∀ k, lft S pl k ≤ S
  | 0 => Nat.le_refl _
  | k + 1 => by have := lft_le S pl k; unfold lft; omega
theorem nsV_succ (S : Nat) (pl : List Part) (k : Nat) : nsV S pl (k + 1) = nsV S pl k ++ [.int .i64 (got S pl k)] := by simp [nsV, List.range_succ]
theorem endsV_succ (S : Nat) (pl : List Part) (k : Nat) : endsV S pl (k + 1) = endsV S pl k ++ [.int .i64 (endN S pl k)] := by simp [endsV, List.range_succ]
theorem length_outB (S : Nat) (pl : List Part) (h : ∀ p ∈ pl, p.bs.length = p.n) : ∀ k, k ≤ pl.length → (outB S pl k).length + lft S pl k = S
  | 0, _ => by simp [outB, lft]
  | k + 1, hk => by
    have ih := length_outB S pl h k (by omega)
    have hp := h _ (pat_mem pl k (by omega))
    simp only [outB, lft, got, List.length_append, List.length_take, hp]
    omega

/-- A row of another type than the blocks that a write turns stays. -/
theorem ownsRow_keptBut {e e' tb tF : TypeId} {B b F n : Nat} {v : Value} {xs xb xF : List Value} {w w' : World} (h : w.ownsRow B e' 1 v n xs) (hk : KeptBut e b F w w') (he : e' ≠ e)
    (hb : Blk w b tb xb) (htb : tb ≠ e') (hF : Blk w F tF xF) (htF : tF ≠ e') : w'.ownsRow B e' 1 v n xs := by
  refine ⟨h.1, ?_⟩
  rcases h.2 with hn | ⟨g, cap, cur, rfl, hBg, hgg, rest⟩
  · exact .inl hn
  · refine .inr ⟨g, cap, cur, rfl, hBg, ?_, rest⟩
    have hx : Blk w g e' cur.toList := by simpa [Blk] using hgg
    have hne : ∀ {k t ys}, Blk w k t ys → t ≠ e' → g ≠ k := by
      rintro k t ys h1 h2 rfl
      have h3 : some (Obj.cells ys.toArray t (0, 0)) = some (.cells cur.toList.toArray e' (0, 0)) := h1.symm.trans hx
      injection h3 with h4
      injection h4 with _ h5 _
      exact h2 h5
    have h1 := hk g e' cur.toList he (hne hb htb) (hne hF htF) hx
    simpa [Blk] using h1

/-- append that also says where the new row lies. -/
theorem wpList_append_rc_at {P : Program} (w : World) {ops : Array Oper} {rest : List Oper} {o : Oper} {a : Act} {Q : Exit → Act → World → Prop} (hgd : o.guard = none) (s x : Operand) (t : TypeId)
    (ho : o.op = .call { callee := .builtin .append, args := #[s, x], argTypes := #[t, t] })
    (base : Nat) (e : TypeId) (z : Value) (size bytes : Nat) (ht : P.underlying t = some (.slice e)) (hinfo : (P.info? e).map (fun i => (i.zero, i.size, i.bytes)) = some (some z, size, bytes)) (hzs : z.cells.size = size) (hsz : 0 < size)
    (v : Value) (n : Nat) (xs : List Value) (hs : a.eval s = v) (hown : w.ownsRow base e size v n xs)
    (ad : Addr) (m c : Nat) (news : List Value) (hx : a.eval x = .slice (some ad) m c) (hl : news.length = m * size) (hr : ∀ j u, news[j]? = some u → w.cell? (ad.add j) = some u) (h1 : ∀ u ∈ news, u.oneCell' = true)
    (h63 : n + m ≤ 9223372036854775807) (hbytes : (n + m) * bytes ≤ 140737488355328) (hbase : base ≤ w.heap.size)
    (hK : ∀ v' w', Hid (w'.ownsRow base e size v' (n + m) (xs ++ news)) → Hid (w.grownBy w' v.ownBlock) → Hid (v'.ownBlock = v.ownBlock ∨ v'.ownBlock = some w.heap.size) → wpList P ops Q rest (a.put o.dst v') w') : wpList P ops Q (o :: rest) a w := by
  obtain ⟨i, hi, hz0, hz1, hz2⟩ := info_parts hinfo
  exact wpList_append_own_at w hgd s x t ho base e i z size bytes ht hi hz0 hz1 hz2 hzs hsz v n xs hs hown ad m c news hx hl hr h1 (by unfold maxLen; omega) hbytes hbase (fun v' w' h2 h3 _ h5 => hK v' w' h2 h3 h5)

theorem ownsRow_blk {B e n : Nat} {v : Value} {xs : List Value} {w : World} (h : w.ownsRow B e 1 v n xs) {g : Nat} (hv : v.ownBlock = some g) : ∃ ys, Blk w g e ys := by
  rcases h.2 with ⟨rfl, _⟩ | ⟨g', cap, cur, rfl, _, hgg, _⟩
  · simp [Value.ownBlock] at hv
  · simp [Value.ownBlock] at hv
    subst hv
    exact ⟨cur.toList, by simpa [Blk] using hgg⟩
theorem blk_ne {w : World} {g k t t' : Nat} {xs ys : List Value} (h : Blk w g t xs) (h' : Blk w k t' ys) (ht : t ≠ t') : g ≠ k := by
  rintro rfl
  have h3 : some (Obj.cells xs.toArray t (0, 0)) = some (.cells ys.toArray t' (0, 0)) := h.symm.trans h'
  injection h3 with h4
  injection h4 with _ h5 _
  exact ht h5
/-- A buffer stays where a row of another type grows. -/
theorem isBuffer_grown {T e e' : TypeId} {B b n : Nat} {v : Value} {bs xs : List Value} {w w' : World} (h : Lib.IsBuffer T e B b bs w) (ho : w.ownsRow B e' 1 v n xs) (hg : w.grownBy w' v.ownBlock) (hT : T ≠ e') (he : e ≠ e') : Lib.IsBuffer T e B b bs w' := by
  obtain ⟨hB, v0, lr, hbk, hown, hne⟩ := h
  have hb : Blk w b T [v0, .int .i64 0, .int .i8 lr] := hbk
  have h1 : some b ≠ v.ownBlock := fun hv => by
    obtain ⟨ys, hy⟩ := ownsRow_blk ho hv.symm
    exact blk_ne hb hy hT rfl
  refine ⟨hB, v0, lr, hb.grown hg h1, hown.kept hg ?_, hne⟩
  cases hv0 : v0.ownBlock with
  | none => exact .inl rfl
  | some g =>
    refine .inr fun hv => ?_
    obtain ⟨zs, hz⟩ := ownsRow_blk hown hv0
    obtain ⟨ys, hy⟩ := ownsRow_blk ho hv.symm
    exact blk_ne hz hy he rfl
end Go.Proofs.YtiahifohkhdmdaaDoor
