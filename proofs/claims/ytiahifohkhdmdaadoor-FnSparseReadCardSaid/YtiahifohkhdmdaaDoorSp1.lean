/- Walks under the sparse reader: zeroReader.Read, bytes.Reader.Read, regFileReader.Read, tryReadFull. -/
import Derived.Test.YtiahifohkhdmdaaDoorSents
import Derived.Test.YtiahifohkhdmdaaDoorFar
import Derived.Deep.RegionHeld3
import Derived.Deep.RegionLaw
import Derived.Deep.CutBlock
import Derived.Deep.DeepCutAuto
namespace Go.Proofs.YtiahifohkhdmdaaDoor
open Go.RowKit Go.PlainAid
set_option linter.unusedVariables false

theorem zero_u8 (w : World) : (zeroValue 5).run Tryd.prog w = .ok (.int .u8 0) w := by kernel_rfl

/-- Bytes 0 from off on, n of them. -/
def ZerosAt (bs : List UInt8) (off n : Nat) : Prop := ∀ j, j < n → bs[off + j]? = some 0

theorem run_clear_zeros (w : World) (ty : TypeId) (g off n c : Nat) (bs : List UInt8) (t : TypeId) (hg : Blk w g t (bys bs)) (hz : ZerosAt bs off n) (hn : 0 < n) :
    (Builtin.clear_ #[23] ty #[.slice (some ⟨g, off, none⟩) n c]).run Tryd.prog w = .ok (.tuple #[]) (w.setCells g off (List.replicate n (.int .u8 0))) :=
  Lib.run_clear_slice w 23 5 ty (.int .u8 0) Tryd.underlying23 zero_u8 rfl rfl g off n c hn
    (fun j hj => by rw [hg.cell]; have := hz j hj; simp [bys, this])
    (fun j hj => hg.frozen _)

/-- What zeroReader.Read leaves. -/
def ZeroRead (g n : Nat) (bs : List UInt8) (w : World) (e : Ending) (w' : World) : Prop :=
  e = .returned (.tuple #[.int .i64 n, .nilIface]) ∧ Blk w' g 5 (bys bs) ∧ Far [g] w w'

set_option maxRecDepth 20000 in
set_option maxHeartbeats 400000 in
theorem zeroRead (g off n c : Nat) (bs : List UInt8) (w : World) (hg : Blk w g 5 (bys bs)) (hz : ZerosAt bs off n) (hn : 0 < n) (hbig : n ≤ 4611686018427387904) :
    Calls Tryd.prog 74 #[.agg #[], .slice (some ⟨g, off, none⟩) n c] w (ZeroRead g n bs w) := by
  have hg1 := hg.alloc (.cells #[] 99)
  have hc := fun ty => run_clear_zeros (w.alloc (.cells #[] 99)) ty g off n c bs 5 hg1 hz hn
  have HB : Hid (Blk ((w.alloc (.cells #[] 99)).setCells g off (List.replicate n (.int .u8 0))) g 5 (bys bs)) :=
    Lib.hid (Blk.setCells_same (fun i => set_getD_same _ i) _ _ _ hg1 (fun j v hv => by
      obtain ⟨hj, rfl⟩ : j < n ∧ v = .int .u8 0 := by
        rw [List.getElem?_replicate] at hv
        split at hv
        · exact ⟨‹_›, (Option.some.inj hv).symm⟩
        · cases hv
      have := hz j hj
      simp [bys, this]))
  have HF : Hid (Far [g] w ((w.alloc (.cells #[] 99)).setCells g off (List.replicate n (.int .u8 0)))) :=
    Lib.hid (Far.setCells (by simp) _ _ _ ((Far.refl _ _).alloc _))
  have HZ := Lib.hid hz
  clear hg hg1 hz
  go_enter Tryd.func74, Tryd.ntmps74
  go_wp2
  go_ret2
  exact ⟨rfl, HB.out, HF.out⟩

section
variable {P : Program}
/-- 'copy(dst, src)' of bytes into a block that is known whole, as one step of a region that draws its order. -/
theorem step_copy_bytes {ops : Array Oper} {o : Oper} {a : Act} {w : World} {K : Act → World → Prop} {Q : Exit → Act → World → Prop} {E : Prop} (hgd : o.guard = none) (d s : Operand) (dT sT : TypeId)
    (ho : o.op = .call { callee := .builtin .copy, args := #[d, s], argTypes := #[dT, sT] }) (elem : TypeId) (hu : P.underlying dT = some (.slice elem)) (hsz : (P.info? elem).map (·.size) = some 1)
    (g off dLen dCap sLen sCap : Nat) (sp : Option Addr) (hd : a.eval d = .slice (some ⟨g, off, none⟩) dLen dCap) (hs : a.eval s = .slice sp sLen sCap)
    (cur ss : List UInt8) (t : TypeId) (B : Nat) (hg : Blk w g t (bys cur)) (hsl : ss.length = sLen) (hr : RB w B sp ss) (hle : dLen ≤ sLen) (hpos : 0 < dLen) (hfit : off + dLen ≤ cur.length)
    (hK : ∀ w', Hid (Blk w' g t (bys (splice cur off (ss.take dLen)))) → Hid (Far [g] w w') → K (a.put o.dst (.int .i64 dLen)) w') :
    if Region.wanted o (yielded ops a.tmps) = true then Oper.wp P o a w K Q else E := by
  have hw : Region.wanted o (yielded ops a.tmps) = true := by simp [Region.wanted, hgd]
  rw [if_pos hw]
  have hlen : (ss.take dLen).length = dLen := by rw [List.length_take]; omega
  obtain ⟨b, so, rfl, _, hc⟩ := hr (by omega)
  have hrun := run_copy_row (P := P) w dT sT o.type elem g off dLen dCap ⟨b, so, none⟩ sLen sCap (bys cur).toArray t (bys (ss.take dLen)) hu hsz hg (by rw [length_bys, hlen, show sLen.min dLen = min sLen dLen from rfl, Nat.min_eq_right hle]) (by
    intro j v hv
    obtain ⟨hj, rfl⟩ := bys_get_of hv
    rw [List.length_take] at hj
    rw [Addr.add_lit, hc j (by omega)]
    simp [byt, List.getD, show j < dLen by omega]) (by simp [length_bys]; omega) (bys_one _)
  unfold Oper.wp
  simp [execOp, ho, resolve, invoke, builtin, hd, hs, hrun, Result.andThen]
  have e : goInt (bys (ss.take dLen)).length = .int .i64 dLen := by rw [length_bys, hlen]; rfl
  rw [e]
  refine hK _ (show Blk _ _ _ _ from ?_) (show Far _ _ _ from Far.of_grown (row := some g) ⟨rfl, rfl, rfl, by simp [World.setRow], fun k hk hne => setRow_other w g k _ (fun e => hne (by rw [e]))⟩ (fun k hk => by cases hk; simp))
  rw [← bys_splice]
  unfold Blk splice
  rw [setRow_heap w g _ _ t _ hg]
end

/-- The cells of a bytes.Reader over a slice. -/
def brCells (S : Option Addr) (n c i : Nat) : List Value := [.slice S n c, .int .i64 i, .int .i64 (-1)]
def BytesRead (Br g off n : Nat) (S : Option Addr) (N c i : Nat) (cur D : List UInt8) (w : World) (e : Ending) (w' : World) : Prop :=
  e = .returned (.tuple #[.int .i64 n, .nilIface]) ∧ Blk w' Br 94 (brCells S N c (i + n)) ∧ Blk w' g 5 (bys (splice cur off (D.take n))) ∧ Far [Br, g] w w'

set_option maxRecDepth 20000 in
set_option maxHeartbeats 800000 in
theorem bytesRead (Br g off n c N cc i B : Nat) (S : Option Addr) (cur all : List UInt8) (w : World) (hb : Blk w Br 94 (brCells S N cc i)) (hg : Blk w g 5 (bys cur)) (hall : all.length = N) (hr : RB w B S all) (hB : B ≤ w.heap.size)
    (hS : ∀ ad, S = some ad → ad.block ≠ Br ∧ ad.block ≠ g) (hne : Br ≠ g) (hpos : 0 < n) (hn : i + n ≤ N) (hcc : N ≤ cc) (hbig : N ≤ 4611686018427387904) (hfit : off + n ≤ cur.length) :
    Calls Tryd.prog 71 #[.pointer (some ⟨Br, 0, none⟩), .slice (some ⟨g, off, none⟩) n c] w (BytesRead Br g off n S N cc i cur (all.drop i) w) := by
  obtain ⟨sb, so, rfl, hsb, hcell⟩ := hr (by omega)
  obtain ⟨hS1, hS2⟩ := hS _ rfl
  have c0 : w.cell? ⟨Br, 0, none⟩ = some (.slice (some ⟨sb, so, none⟩) N cc) := by rw [hb.cell]; rfl
  have c1 : w.cell? ⟨Br, 1, none⟩ = some (.int .i64 i) := by rw [hb.cell]; rfl
  have c2 : w.cell? ⟨Br, 2, none⟩ = some (.int .i64 (-1)) := by rw [hb.cell]; rfl
  have f2 := hb.frozen 2
  have HBR := Lib.hid hb
  have HG := Lib.hid hg
  have HR := Lib.hid hcell
  have HALL := Lib.hid hall
  clear hb hg hr hall hcell hS
  have hge : decide ((N : Int) ≤ (i : Int)) = false := by simp; omega
  go_enter Tryd.func71, Tryd.ntmps71
  go_wp2_with fail
  go_region_held3 (fun w' => w'.cell? ⟨Br, 0, none⟩ = some (.slice (some ⟨sb, so, none⟩) N cc) ∧ w'.cell? ⟨Br, 1, none⟩ = some (.int .i64 i)) (go_keep) (fail)
  go_wp2_with fail
  have HB1 : Hid (Blk (w.setCell ⟨Br, 2, none⟩ (.int .i64 (-1))).drew Br 94 (brCells (some ⟨sb, so, none⟩) N cc i)) := Lib.hid (HBR.out.set_ 2 (.int .i64 (-1)))
  have HG1 : Hid (Blk (w.setCell ⟨Br, 2, none⟩ (.int .i64 (-1))).drew g 5 (bys cur)) := Lib.hid (HG.out.far (p := ⟨Br, 2, none⟩) (Ne.symm hne) _)
  have HF1 : Hid (Far [Br, g] w (w.setCell ⟨Br, 2, none⟩ (.int .i64 (-1))).drew) := Lib.hid (((Far.refl _ w).setCell (p := ⟨Br, 2, none⟩) (.inl (by simp)) _).drew)
  have HR1 : Hid (∀ j, j < all.length → (w.setCell ⟨Br, 2, none⟩ (.int .i64 (-1))).drew.cell? ⟨sb, so + j, none⟩ = some (.int .u8 (byt all j))) := Lib.hid (fun j hj => (World.cell?_setCell_other w ⟨Br, 2, none⟩ ⟨sb, so + j, none⟩ _ (by intro e; injection e with e; exact hS1 e.symm)).trans (HR.out j hj))
  clear c0 c1 c2 f2
  generalize (w.setCell ⟨Br, 2, none⟩ (.int .i64 (-1))).drew = w1 at HB1 HG1 HF1 HR1 ⊢
  have c0 : w1.cell? ⟨Br, 0, none⟩ = some (.slice (some ⟨sb, so, none⟩) N cc) := by rw [HB1.out.cell]; rfl
  have c1 : w1.cell? ⟨Br, 1, none⟩ = some (.int .i64 i) := by rw [HB1.out.cell]; rfl
  have HL : Hid ((all.drop i).length = N - i) := Lib.hid (by rw [List.length_drop, HALL.out])
  have HRD : Hid (RB w1 (sb + 1) (some ⟨sb, so + i, none⟩) (all.drop i)) := Lib.hid (fun hp => ⟨sb, so + i, rfl, by omega, fun j hj => by
    rw [List.length_drop] at hj
    rw [Nat.add_assoc, HR1.out (i + j) (by omega)]
    simp [byt, List.getD, List.getElem?_drop]⟩)
  have hci : ¬ cc = i := by omega
  have hci2 : (i : Int) ≤ (N : Int) := by omega
  have hci3 : (N : Int) ≤ (cc : Int) := by omega
  go_region_law (refine step_copy_bytes rfl (.tmp 20) (.tmp 29) 23 23 rfl 5 Tryd.underlying23 u8size g off n c (N - i) (cc - i) (some ⟨sb, so + i, none⟩) (by simp [Act.eval, Act.put]) (by simp [Act.eval, Act.put]) cur (all.drop i) 5 (sb + 1) HG1.out HL.out HRD.out (by omega) hpos hfit ?_; intro w4 hg4 hb4)
  all_goals
    have hb5 := ((Far.refl [g] w1).drew).trans hb4.out
    have HB4 := Lib.hid (Blk.of_far (S := [g]) HB1.out hb5 (by simp [hne]))
    have HF4 := Lib.hid (HF1.out.trans (Far.mono (S := [g]) (T := [Br, g]) hb5 (fun k _ hk => by simp at hk; simp [hk])))
    have HG4 := Lib.hid hg4.out
    clear hg4 hb4 hb5 c0 c1
    have c1 : w4.cell? ⟨Br, 1, none⟩ = some (.int .i64 i) := by rw [HB4.out.cell]; rfl
    have f1 := HB4.out.frozen 1
    have hw : IntKind.i64.wrap ((i : Int) + n) = (i : Int) + n := IntWalk.i64_in _ (by omega)
    go_wp2
    go_ret2
    exact ⟨rfl, HB4.out.set_ 1 _, HG4.out.far (p := ⟨Br, 1, none⟩) (Ne.symm hne) _, HF4.out.setCell (p := ⟨Br, 1, none⟩) (.inl (by simp)) _⟩
end Go.Proofs.YtiahifohkhdmdaaDoor
