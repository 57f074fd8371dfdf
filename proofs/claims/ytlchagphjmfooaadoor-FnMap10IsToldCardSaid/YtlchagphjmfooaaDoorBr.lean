/- slices.Clone of bytes; bytes.NewReader; (*bytes.Reader).Read into a buffer of any size. -/
import Derived.Test.YtlchagphjmfooaaDoorRows
import Derived.Test.YtlchagphjmfooaaDoorFar
import Derived.Test.YtlchagphjmfooaaDoorErr
import Derived.Test.YtlchagphjmfooaaDoorShelf
import Derived.Deep.RegionHeld3
import Derived.Deep.RegionLaw
namespace Go.Proofs.YtlchagphjmfooaaDoor
open Go.RowKit Go.PlainAid
set_option linter.unusedVariables false

theorem u8info : (Tryd.prog.info? 5).map (fun i => (i.zero, i.size, i.bytes)) = some (some (.int .u8 0), 1, 1) := by kernel_rfl
theorem u8size : (Tryd.prog.info? 5).map (·.size) = some 1 := by kernel_rfl
/-- A copy of the bytes bs in memory of the call's own. -/
def Cloned (n : Nat) (bs : List UInt8) (w : World) (en : Ending) (w' : World) : Prop :=
  ∃ v, en = .returned v ∧ w'.ownsRow w.heap.size 5 1 v n (bys bs) ∧ Below w.heap.size w w'

set_option maxRecDepth 20000 in
set_option maxHeartbeats 400000 in
theorem clone_any (A : Option Addr) (n c B : Nat) (bs : List UInt8) (w : World) (hn : bs.length = n) (hr : RB w B A bs) (hB : B ≤ w.heap.size) (hbig : n ≤ 70368744177664) :
    Calls Tryd.prog 66 #[.slice A n c] w (Cloned n bs w) := by
  have hq := fun (w : World) (a : Option Addr) (n c : Nat) => Lib.run_eql_slice_nil (P := Tryd.prog) w 62 5 a n c 0 0 Tryd.underlying62
  cases A with
  | none =>
    have h0 : bs = [] := by
      rcases Nat.eq_zero_or_pos bs.length with h | h
      · exact List.eq_nil_of_length_eq_zero h
      · obtain ⟨_, _, h, _⟩ := hr h
        cases h
    subst h0
    obtain rfl : n = 0 := by simpa using hn.symm
    clear hr hn
    go_enter Tryd.func66, Tryd.ntmps66
    go_wp2
    go_ret
    exact ⟨_, rfl, World.ownsRow_nil _ _ _ _, Below.refl _ _⟩
  | some ad =>
    have HN := Lib.hid hn
    have HR := Lib.hid hr
    have HL : Hid ((bys bs).length = n * 1) := by show _ = _; rw [length_bys, hn, Nat.mul_one]
    have HO := Lib.hid (World.ownsRow_made (base := w.heap.size) (e := 5) (size := 1) w #[] 0 (Nat.le_refl _) (Nat.zero_le _) rfl)
    have HRC := Lib.hid ((RC.of_RB HR.out).alloc hB (.cells #[] 5))
    have HE := Lib.hid ((Below.refl w.heap.size w).alloc (Nat.le_refl _) (.cells #[] 5))
    clear hn hr
    go_enter Tryd.func66, Tryd.ntmps66
    go_wp2_with (at_builtin; refine wpList_append_rc (o := ⟨some 7, _, _, _, _, _⟩) _ rfl (.tmp 5) (.tmp 6) _ rfl w.heap.size 5 _ 1 1 Tryd.underlying62 u8info rfl (by omega) _ 0 [] rfl HO.out (some ad) n c B (bys bs) rfl HL.out HRC.out (bys_one bs) (by omega) (by omega) (by simp) ?_)
    intro v' w1 h1 h2 h3
    go_wp2
    go_ret
    exact ⟨_, rfl, h1.out, HE.out.grown h2.out (by simp) (by simp [Value.ownBlock])⟩

section
variable {P : Program}
/-- 'copy(dst, src)' of bytes into a block that is known whole, as one step of a region that draws its order; the source may be the shorter one. -/
theorem step_copy_any {ops : Array Oper} {o : Oper} {a : Act} {w : World} {K : Act → World → Prop} {Q : Exit → Act → World → Prop} {E : Prop} (hgd : o.guard = none) (d s : Operand) (dT sT : TypeId)
    (ho : o.op = .call { callee := .builtin .copy, args := #[d, s], argTypes := #[dT, sT] }) (elem : TypeId) (hu : P.underlying dT = some (.slice elem)) (hsz : (P.info? elem).map (·.size) = some 1)
    (g off dLen dCap sLen sCap m : Nat) (sp : Option Addr) (hd : a.eval d = .slice (some ⟨g, off, none⟩) dLen dCap) (hs : a.eval s = .slice sp sLen sCap)
    (cur ss : List UInt8) (t : TypeId) (B : Nat) (hg : Blk w g t (bys cur)) (hsl : ss.length = sLen) (hr : RB w B sp ss) (hm : (ss.take dLen).length = m) (hpos : 0 < m) (hfit : off + m ≤ cur.length)
    (hK : ∀ w', Hid (Blk w' g t (bys (splice cur off (ss.take dLen)))) → Hid (Far [g] w w') → K (a.put o.dst (.int .i64 m)) w') :
    if Region.wanted o (yielded ops a.tmps) = true then Oper.wp P o a w K Q else E := by
  have hw : Region.wanted o (yielded ops a.tmps) = true := by simp [Region.wanted, hgd]
  rw [if_pos hw]
  have hml : m = min dLen sLen := by rw [← hm, List.length_take, hsl]
  obtain ⟨b, so, rfl, _, hc⟩ := hr (by omega)
  have hrun := run_copy_row (P := P) w dT sT o.type elem g off dLen dCap ⟨b, so, none⟩ sLen sCap (bys cur).toArray t (bys (ss.take dLen)) hu hsz hg (by rw [length_bys, hm, hml]; exact Nat.min_comm _ _) (by
    intro j v hv
    obtain ⟨hj, rfl⟩ := bys_get_of hv
    rw [List.length_take] at hj
    rw [Addr.add_lit, hc j (by omega)]
    simp [byt, List.getD, show j < dLen by omega]) (by simp [length_bys]; rw [List.length_take] at hm; omega) (bys_one _)
  unfold Oper.wp
  simp [execOp, ho, resolve, invoke, builtin, hd, hs, hrun, Result.andThen]
  have e : goInt (bys (ss.take dLen)).length = .int .i64 m := by rw [length_bys, hm]; rfl
  rw [e]
  refine hK _ (show Blk _ _ _ _ from ?_) (show Far _ _ _ from Far.of_grown (row := some g) ⟨rfl, rfl, rfl, by simp [World.setRow], fun k hk hne => setRow_other w g k _ (fun e => hne (by rw [e]))⟩ (fun k hk => by cases hk; simp))
  rw [← bys_splice]
  unfold Blk splice
  rw [setRow_heap w g _ _ t _ hg]
end

/-- The cells of a bytes.Reader over a slice. -/
def brCells (S : Option Addr) (n c i : Nat) : List Value := [.slice S n c, .int .i64 i, .int .i64 (-1)]
/-- A bytes.Reader at block Br, with D left to be read. -/
structure BrAt (Br : Nat) (D : List UInt8) (w : World) : Prop where
  ex : ∃ (S : Option Addr) (N cc i : Nat) (all : List UInt8), Blk w Br 147 (brCells S N cc i) ∧ all.length = N ∧ N ≤ cc ∧ N ≤ 70368744177664 ∧ D = all.drop i ∧ i ≤ N ∧ RB w Br S all ∧ (∀ ad, S = some ad → ad.block < Br)
theorem BrAt.far {Br : Nat} {D : List UInt8} {S : List Nat} {w w' : World} (h : BrAt Br D w) (hf : Far S w w') (hS : ∀ k ∈ S, Br < k) : BrAt Br D w' := by
  obtain ⟨A, N, cc, i, all, b, e1, e2, e3, e4, e5, hr, hA⟩ := h.ex
  exact ⟨A, N, cc, i, all, b.of_far hf (fun hk => by have := hS _ hk; omega), e1, e2, e3, e4, e5, hr.of_far hf (Nat.le_of_lt b.lt) (fun ad h hk => by have h1 := hA ad h; have h2 := hS _ hk; omega), hA⟩
theorem BrAt.below {Br B : Nat} {D : List UInt8} {w w' : World} (h : BrAt Br D w) (hf : Below B w w') (hB : Br < B) : BrAt Br D w' := by
  obtain ⟨A, N, cc, i, all, b, e1, e2, e3, e4, e5, hr, hA⟩ := h.ex
  exact ⟨A, N, cc, i, all, b.below hf hB, e1, e2, e3, e4, e5, hr.below (hf.mono (Nat.le_of_lt hB)), hA⟩
theorem BrAt.drew {Br : Nat} {D : List UInt8} {w : World} (h : BrAt Br D w) : BrAt Br D w.drew := ⟨h.ex⟩
theorem BrAt.lt {Br : Nat} {D : List UInt8} {w : World} (h : BrAt Br D w) : Br < w.heap.size := by obtain ⟨A, N, cc, i, all, b, _⟩ := h.ex; exact b.lt
theorem BrAt.len {Br : Nat} {D : List UInt8} {w : World} (h : BrAt Br D w) : D.length ≤ 70368744177664 := by
  obtain ⟨A, N, cc, i, all, b, e1, e2, e3, e4, e5, hr, hA⟩ := h.ex
  rw [e4, List.length_drop]
  omega
/-- What Read into n bytes at place off of block g leaves, m bytes being read. -/
def BRead (Br g off n m : Nat) (cur D : List UInt8) (w : World) (e : Ending) (w' : World) : Prop :=
  e = .returned (.tuple #[.int .i64 m, .nilIface]) ∧ BrAt Br (D.drop m) w' ∧ Blk w' g 5 (bys (splice cur off (D.take n))) ∧ Far [Br, g] w w'
set_option maxRecDepth 20000 in
set_option maxHeartbeats 1600000 in
theorem bytesReadA (T : TypeId) (Br g off n c m : Nat) (cur D : List UInt8) (w : World) (hb : BrAt Br D w) (hg : Blk w g T (bys cur)) (hne : Br < g) (hm : (D.take n).length = m) (hpos : 0 < m) (hfit : off + m ≤ cur.length) (hnc : n ≤ c) (hnn : n ≤ 4611686018427387904) :
    Calls Tryd.prog 178 #[.pointer (some ⟨Br, 0, none⟩), .slice (some ⟨g, off, none⟩) n c] w fun e w' => e = .returned (.tuple #[.int .i64 m, .nilIface]) ∧ BrAt Br (D.drop m) w' ∧ Blk w' g T (bys (splice cur off (D.take n))) ∧ Far [Br, g] w w' := by
  obtain ⟨S, N, cc, i, all, b, e1, e2, e3, e4, e5, hr, hA⟩ := hb.ex
  have hDl : D.length = N - i := by rw [e4, List.length_drop, e1]
  have hml : m = min n D.length := by rw [← hm, List.length_take]
  obtain ⟨sb, so, rfl, hsb, hcell⟩ := hr (by omega)
  have c0 : w.cell? ⟨Br, 0, none⟩ = some (.slice (some ⟨sb, so, none⟩) N cc) := by rw [b.cell]; rfl
  have c1 : w.cell? ⟨Br, 1, none⟩ = some (.int .i64 i) := by rw [b.cell]; rfl
  have c2 : w.cell? ⟨Br, 2, none⟩ = some (.int .i64 (-1)) := by rw [b.cell]; rfl
  have f2 := b.frozen 2
  have HBR := Lib.hid b
  have HG := Lib.hid hg
  have HR := Lib.hid hcell
  have HALL := Lib.hid e1
  have H4 := Lib.hid e4
  have HM := Lib.hid hm
  have HDL := Lib.hid hDl
  have HML := Lib.hid hml
  have hin : i < N := by omega
  have HA := Lib.hid hA
  clear b hb hg hr hcell e1 e4 hm hDl hml hA
  have hge : decide ((N : Int) ≤ (i : Int)) = false := by simp; omega
  go_enter Tryd.func178, Tryd.ntmps178
  go_wp2_with fail
  go_region_held3 (fun w' => w'.cell? ⟨Br, 0, none⟩ = some (.slice (some ⟨sb, so, none⟩) N cc) ∧ w'.cell? ⟨Br, 1, none⟩ = some (.int .i64 i)) (go_keep) (fail)
  go_wp2_with fail
  have HB1 : Hid (Blk (w.setCell ⟨Br, 2, none⟩ (.int .i64 (-1))).drew Br 147 (brCells (some ⟨sb, so, none⟩) N cc i)) := Lib.hid (HBR.out.set_ 2 (.int .i64 (-1)))
  have HG1 : Hid (Blk (w.setCell ⟨Br, 2, none⟩ (.int .i64 (-1))).drew g T (bys cur)) := Lib.hid (HG.out.far (p := ⟨Br, 2, none⟩) (by show g ≠ Br; omega) _)
  have HF1 : Hid (Far [Br, g] w (w.setCell ⟨Br, 2, none⟩ (.int .i64 (-1))).drew) := Lib.hid (((Far.refl _ w).setCell (p := ⟨Br, 2, none⟩) (.inl (by simp)) _).drew)
  have HR1 : Hid (∀ j, j < all.length → (w.setCell ⟨Br, 2, none⟩ (.int .i64 (-1))).drew.cell? ⟨sb, so + j, none⟩ = some (.int .u8 (byt all j))) := Lib.hid (fun j hj => (World.cell?_setCell_other w ⟨Br, 2, none⟩ ⟨sb, so + j, none⟩ _ (by intro e; injection e with e; omega)).trans (HR.out j hj))
  clear c0 c1 c2 f2
  generalize (w.setCell ⟨Br, 2, none⟩ (.int .i64 (-1))).drew = w1 at HB1 HG1 HF1 HR1 ⊢
  have c0 : w1.cell? ⟨Br, 0, none⟩ = some (.slice (some ⟨sb, so, none⟩) N cc) := by rw [HB1.out.cell]; rfl
  have c1 : w1.cell? ⟨Br, 1, none⟩ = some (.int .i64 i) := by rw [HB1.out.cell]; rfl
  have HL : Hid ((all.drop i).length = N - i) := Lib.hid (by rw [List.length_drop, HALL.out])
  have HRD : Hid (RB w1 (sb + 1) (some ⟨sb, so + i, none⟩) (all.drop i)) := Lib.hid (fun hp => ⟨sb, so + i, rfl, by omega, fun j hj => by
    rw [List.length_drop] at hj
    rw [Nat.add_assoc, HR1.out (i + j) (by omega)]
    simp [byt, List.getD, List.getElem?_drop]⟩)
  have HMD : Hid (((all.drop i).take n).length = m) := Lib.hid (by rw [← H4.out]; exact HM.out)
  have hci : ¬ cc = i := by omega
  have hci2 : (i : Int) ≤ (N : Int) := by omega
  have hci3 : (N : Int) ≤ (cc : Int) := by omega
  go_region_law (refine step_copy_any rfl (.tmp 20) (.tmp 29) 62 62 rfl 5 Tryd.underlying62 u8size g off n c (N - i) (cc - i) m (some ⟨sb, so + i, none⟩) (by simp [Act.eval, Act.put]) (by simp [Act.eval, Act.put]) cur (all.drop i) T (sb + 1) HG1.out HL.out HRD.out HMD.out hpos hfit ?_; intro w4 hg4 hb4)
  all_goals
    have hb5 := ((Far.refl [g] w1).drew).trans hb4.out
    have HB4 := Lib.hid (Blk.of_far (S := [g]) HB1.out hb5 (by simp; omega))
    have HF4 := Lib.hid (HF1.out.trans (Far.mono (S := [g]) (T := [Br, g]) hb5 (fun k _ hk => by simp at hk; simp [hk])))
    have HG4 := Lib.hid hg4.out
    clear hg4 hb4 hb5 c0 c1
    have c1 : w4.cell? ⟨Br, 1, none⟩ = some (.int .i64 i) := by rw [HB4.out.cell]; rfl
    have f1 := HB4.out.frozen 1
    have him : i + m ≤ N := by have := HDL.out; have := HML.out; omega
    have hw : IntKind.i64.wrap ((i : Int) + m) = (i : Int) + m := IntWalk.i64_in _ (by omega)
    go_wp2
    go_ret2
    refine ⟨rfl, ⟨some ⟨sb, so, none⟩, N, cc, i + m, all, HB4.out.set_ 1 _, HALL.out, e2, e3, by rw [H4.out, List.drop_drop], him, ?_, HA.out⟩, by rw [H4.out]; exact HG4.out.far (p := ⟨Br, 1, none⟩) (by show g ≠ Br; omega) _, HF4.out.setCell (p := ⟨Br, 1, none⟩) (.inl (by simp)) _⟩
    refine fun _ => ⟨sb, so, rfl, hsb, fun j hj => ?_⟩
    have hfar := HF4.out.setCell (p := ⟨Br, 1, none⟩) (.inl (by simp)) (.int .i64 ((i : Int) + m))
    exact (hfar.cell (p := ⟨sb, so + j, none⟩) (by show sb < w.heap.size; have := HBR.out.lt; omega) (by simp; omega)).trans (HR.out j hj)
set_option maxRecDepth 20000 in
set_option maxHeartbeats 800000 in
theorem bytesReadE {B : Nat} {a : Addr} (Br : Nat) (A : Option Addr) (n c : Nat) (w : World) (hb : BrAt Br [] w) (hE : Err B w 2 a) :
    Calls Tryd.prog 178 #[.pointer (some ⟨Br, 0, none⟩), .slice A n c] w fun e w' => e = .returned (.tuple #[.int .i64 0, errV a]) ∧ ∃ q, w' = w.drewN q := by
  obtain ⟨S, N, cc, i, all, b, e1, e2, e3, e4, e5, hr, hA⟩ := hb.ex
  have hin : N = i := by have := congrArg List.length e4; rw [List.length_drop, List.length_nil] at this; omega
  subst hin
  have c0 : w.cell? ⟨Br, 0, none⟩ = some (.slice S N cc) := by rw [b.cell]; rfl
  have c1 : w.cell? ⟨Br, 1, none⟩ = some (.int .i64 N) := by rw [b.cell]; rfl
  have k1 := hE.cell
  unfold errV at k1 ⊢
  clear b hb hr e1 e4 hA hE
  go_enter Tryd.func178, Tryd.ntmps178
  go_wp2_with fail
  go_region_held3 (fun w' => w'.cell? ⟨Br, 0, none⟩ = some (.slice S N cc) ∧ w'.cell? ⟨Br, 1, none⟩ = some (.int .i64 N)) (go_keep) (fail)
  go_wp2
  go_region_held3 (fun w' => w'.cell? ⟨2, 0, none⟩ = some (.iface 226 (.pointer (some a)))) (go_keep) (fail)
  go_wp2
  go_ret2
  exact ⟨rfl, 2, rfl⟩
set_option maxRecDepth 20000 in
set_option maxHeartbeats 400000 in
theorem newReader (A : Option Addr) (n c : Nat) (w : World) :
    Calls Tryd.prog 65 #[.slice A n c] w fun e w' => e = .returned (.pointer (some ⟨w.heap.size, 0, none⟩)) ∧ w.alloc (.cells (brCells A n c 0).toArray 147) = w' := by
  go_enter Tryd.func65, Tryd.ntmps65
  go_wp2
  go_ret
  exact ⟨rfl, rfl⟩
theorem BrAt.new {w : World} {A : Option Addr} {n c : Nat} {bs : List UInt8} (hr : RB w w.heap.size A bs) (hl : bs.length = n) (hc : n ≤ c) (hn : n ≤ 70368744177664) (hA : ∀ ad, A = some ad → ad.block < w.heap.size) :
    BrAt w.heap.size bs (w.alloc (.cells (brCells A n c 0).toArray 147)) :=
  ⟨A, n, c, 0, bs, Blk.new w _ _, hl, hc, hn, rfl, by omega, hr.alloc (Nat.le_refl _) _, hA⟩
end Go.Proofs.YtlchagphjmfooaaDoor
