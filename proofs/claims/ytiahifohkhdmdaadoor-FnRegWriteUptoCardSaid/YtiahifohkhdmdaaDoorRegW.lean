/- The walk of regFileWriter.Write. -/
import Derived.Test.YtiahifohkhdmdaaDoorSents
import Derived.Deep.RegionHeld3
import Derived.Deep.CutBlock
import Derived.Deep.DeepCutAuto
import Derived.Lib.BufferKept
namespace Go.Proofs.YtiahifohkhdmdaaDoor
open Go.RowKit Go.PlainAid
set_option linter.unusedVariables false

/-- The writer of a file: its buffer, and how much it has room for. -/
def fwCells (b : Nat) (nb : Int) : List Value := [.iface 64 (.pointer (some ⟨b, 0, none⟩)), .int .i64 nb]
theorem bufWrite (b : Nat) (w : World) : (method 66 64 (.pointer (some ⟨b, 0, none⟩)) "Write").run Tryd.prog w = .ok (60, .pointer (some ⟨b, 0, none⟩)) w := by kernel_rfl

/-- Blocks of other types than e, other than b and F, are as they were. -/
def KeptBut (e : TypeId) (b F : Nat) (w w' : World) : Prop := ∀ k t xs, t ≠ e → k ≠ b → k ≠ F → Blk w k t xs → Blk w' k t xs
theorem blk_of_others {e t : TypeId} {b k : Nat} {w w' : World} {xs : List Value} (h : Lib.OthersKept e (some b) w w') (ht : t ≠ e) (hk : k ≠ b) (hb : Blk w k t xs) : Blk w' k t xs :=
  h k _ hb (by simpa using hk) (fun c fz he => by injection he with _ h2 _; exact ht h2)
theorem KeptBut.refl (e : TypeId) (b F : Nat) (w : World) : KeptBut e b F w w := fun _ _ _ _ _ _ h => h
theorem KeptBut.trans {e : TypeId} {b F : Nat} {w w' w'' : World} (h : KeptBut e b F w w') (h' : KeptBut e b F w' w'') : KeptBut e b F w w'' := fun k t xs a b c d => h' k t xs a b c (h k t xs a b c d)
theorem isBuffer_far {T e t : TypeId} {B b F : Nat} {bs xs : List Value} {w : World} (h : Lib.IsBuffer T e B b bs w) (hF : Blk w F t xs) (ht : t ≠ e) (hFb : F ≠ b) (i : Nat) (v : Value) : Lib.IsBuffer T e B b bs (w.setCell ⟨F, i, none⟩ v) := by
  obtain ⟨hB, v0, lr, hbk, hown, hne⟩ := h
  have hg := Lib.grownBy_setCell w F i v
  refine ⟨hB, v0, lr, (Blk.far (g := b) (t := T) (xs := [v0, .int .i64 0, .int .i8 lr]) hbk (p := ⟨F, i, none⟩) (Ne.symm hFb) v), hown.kept hg (.inr ?_), hne⟩
  rcases hown.2 with ⟨rfl, _⟩ | ⟨g, cap, cur, rfl, _, hgg, _⟩
  · simp [Value.ownBlock]
  · simp only [Value.ownBlock, ne_eq, Option.some.injEq]
    rintro rfl
    have h1 : some (Obj.cells cur e (0, 0)) = some (.cells xs.toArray t (0, 0)) := hgg.symm.trans hF
    injection h1 with h2
    injection h2 with _ h3 _
    exact ht h3.symm

set_option maxRecDepth 20000 in
set_option maxHeartbeats 800000 in
theorem regWrite_fits (F b B n c nb g : Nat) (off : Nat) (bs : List Value) (ps : List UInt8) (w : World) (hF : Blk w F 68 (fwCells b nb)) (hb : Lib.IsBuffer 62 5 B b bs w) (hBF : B ≤ F) (hFb : F ≠ b) (hBw : B ≤ w.heap.size)
    (hn : ps.length = n) (hr : ∀ i, i < n → w.cell? ⟨g, off + i, none⟩ = some (.int .u8 (byt ps i))) (hg : g ≠ b) (hpos : 0 < n) (hnb : n ≤ nb) (hnb2 : nb ≤ 9223372036854775807) (h1 : ∀ v ∈ bs, v.oneCell' = true) (hlim : bs.length + n ≤ 140737488355328) :
    Calls Tryd.prog 27 #[.pointer (some ⟨F, 0, none⟩), .slice (some ⟨g, off, none⟩) n c] w fun e w' => e = .returned (.tuple #[.int .i64 n, .nilIface]) ∧
      Blk w' F 68 (fwCells b (nb - n)) ∧ Lib.IsBuffer 62 5 B b (bs ++ bys ps) w' ∧ Below B w w' ∧ KeptBut 5 b F w w' := by
  have hm := bufWrite b
  have c0 : w.cell? ⟨F, 0, none⟩ = some (.iface 64 (.pointer (some ⟨b, 0, none⟩))) := by rw [hF.cell]; rfl
  have c1 : w.cell? ⟨F, 1, none⟩ = some (.int .i64 nb) := by rw [hF.cell]; rfl
  have HF := Lib.hid hF
  have HB := Lib.hid hb
  have HR := Lib.hid hr
  have HN := Lib.hid hn
  clear hF hb hr hn
  go_enter Tryd.func27, Tryd.ntmps27
  go_wp2_with fail
  refine (Tryd.Buffer_Write_any B b bs (bys ps) ⟨g, off, none⟩ n c w HB.out hBw h1 (by rw [length_bys]; exact HN.out) hg ?_ (bys_one _) hlim).mono ?_
  · intro j v hv
    obtain ⟨hj, rfl⟩ := bys_get_of hv
    rw [Addr.add_lit]
    exact HR.out j (by rw [← HN.out]; exact hj)
  rintro e w2 ⟨rfl, hb2, hbe2, hk2⟩
  have HF2 := Lib.hid (blk_of_others hk2 (by decide) hFb HF.out)
  have HB2 := Lib.hid (isBuffer_far hb2 HF2.out (by decide) hFb 1 (.int .i64 ((nb : Int) - n)))
  have HBE2 := Lib.hid (hbe2.setCell (p := ⟨F, 1, none⟩) (by exact hBF) (.int .i64 ((nb : Int) - n)))
  have HK2 : Hid (KeptBut 5 b F w (w2.setCell ⟨F, 1, none⟩ (.int .i64 ((nb : Int) - n)))) := by
    show KeptBut _ _ _ _ _
    intro k t xs ht hkb hkF hx
    exact (blk_of_others hk2 ht hkb hx).far (p := ⟨F, 1, none⟩) hkF _
  have d0 : w2.cell? ⟨F, 0, none⟩ = some (.iface 64 (.pointer (some ⟨b, 0, none⟩))) := by rw [HF2.out.cell]; rfl
  have d1 : w2.cell? ⟨F, 1, none⟩ = some (.int .i64 nb) := by rw [HF2.out.cell]; rfl
  have d2 := HF2.out.frozen 1
  have HF3 := Lib.hid (HF2.out.set_ 1 (.int .i64 ((nb : Int) - n)))
  clear hb2 hbe2 hk2 c0 c1
  have hw : IntKind.i64.wrap ((nb : Int) - n) = (nb : Int) - n := IntWalk.i64_in _ (by omega)
  go_wp2
  go_ret2
  exact ⟨rfl, HF3.out, HB2.out, HBE2.out, HK2.out⟩

set_option maxRecDepth 20000 in
set_option maxHeartbeats 800000 in
theorem regWrite_none (F b nb c : Nat) (A : Option Addr) (w : World) (hF : Blk w F 68 (fwCells b nb)) :
    Calls Tryd.prog 27 #[.pointer (some ⟨F, 0, none⟩), .slice A 0 c] w fun e w' => e = .returned (.tuple #[.int .i64 0, .nilIface]) ∧ w = w' := by
  have c1 : w.cell? ⟨F, 1, none⟩ = some (.int .i64 nb) := by rw [hF.cell]; rfl
  clear hF
  go_enter Tryd.func27, Tryd.ntmps27
  go_wp2
  go_ret2
  exact ⟨rfl, rfl⟩

set_option maxRecDepth 20000 in
set_option maxHeartbeats 800000 in
theorem regWrite_full (F b n c C : Nat) (A : Option Addr) (a : Addr) (w : World) (hF : Blk w F 68 (fwCells b (0 : Nat))) (hpos : 0 < n) (hn : n ≤ 9223372036854775807) (hA : A ≠ none ∨ c = 0) (hE : Err C w 1 a) :
    Calls Tryd.prog 27 #[.pointer (some ⟨F, 0, none⟩), .slice A n c] w fun e w' => e = .returned (.tuple #[.int .i64 0, errV a]) ∧ w' = w.drew := by
  have c1 : w.cell? ⟨F, 1, none⟩ = some (.int .i64 0) := by rw [hF.cell]; rfl
  have k := hE.cell
  unfold errV at *
  clear hF hE
  rcases A with _ | ⟨g, off, key⟩
  · go_enter Tryd.func27, Tryd.ntmps27
    go_wp2_with fail
    go_region_held3 (fun w' => w'.cell? ⟨1, 0, none⟩ = some (.iface 100 (.pointer (some a)))) (go_keep) (fail)
    go_wp2
    go_ret2
    exact ⟨rfl, rfl⟩
  · go_enter Tryd.func27, Tryd.ntmps27
    go_wp2_with fail
    go_region_held3 (fun w' => w'.cell? ⟨1, 0, none⟩ = some (.iface 100 (.pointer (some a)))) (go_keep) (fail)
    go_wp2
    go_ret2
    exact ⟨rfl, rfl⟩

set_option maxRecDepth 20000 in
set_option maxHeartbeats 800000 in
theorem regWrite_long (F b B n c nb g C : Nat) (off : Nat) (a : Addr) (bs : List Value) (ps : List UInt8) (w : World) (hF : Blk w F 68 (fwCells b nb)) (hb : Lib.IsBuffer 62 5 B b bs w) (hBF : B ≤ F) (hFb : F ≠ b) (hBw : B ≤ w.heap.size)
    (hn : ps.length = n) (hr : ∀ i, i < n → w.cell? ⟨g, off + i, none⟩ = some (.int .u8 (byt ps i))) (hg : g ≠ b) (hpos : 0 < nb) (hnb : nb < n) (hnc : n ≤ c) (hnb2 : n ≤ 4611686018427387904) (h1 : ∀ v ∈ bs, v.oneCell' = true) (hlim : bs.length + nb ≤ 140737488355328)
    (hE : Err C w 1 a) (hC : C ≤ B) :
    Calls Tryd.prog 27 #[.pointer (some ⟨F, 0, none⟩), .slice (some ⟨g, off, none⟩) n c] w fun e w' => e = .returned (.tuple #[.int .i64 nb, errV a]) ∧
      Blk w' F 68 (fwCells b (0 : Nat)) ∧ Lib.IsBuffer 62 5 B b (bs ++ bys (ps.take nb)) w' ∧ Below B w w' ∧ KeptBut 5 b F w w' := by
  have hm := bufWrite b
  have c0 : w.cell? ⟨F, 0, none⟩ = some (.iface 64 (.pointer (some ⟨b, 0, none⟩))) := by rw [hF.cell]; rfl
  have c1 : w.cell? ⟨F, 1, none⟩ = some (.int .i64 nb) := by rw [hF.cell]; rfl
  have HF := Lib.hid hF
  have HB := Lib.hid hb
  have HR := Lib.hid hr
  have HN := Lib.hid hn
  have HT : Hid ((ps.take nb).length = nb) := by show _ = _; rw [List.length_take]; omega
  have HE := Lib.hid hE
  clear hF hb hr hn hE
  have s1 : (0 : Int) ≤ (nb : Int) := by omega
  have s2 : (nb : Int) ≤ (c : Int) := by omega
  go_enter Tryd.func27, Tryd.ntmps27
  go_wp2_with fail
  refine (Tryd.Buffer_Write_any B b bs (bys (ps.take nb)) ⟨g, off, none⟩ nb _ w HB.out hBw h1 (by rw [length_bys]; exact HT.out) hg ?_ (bys_one _) hlim).mono ?_
  · intro j v hv
    obtain ⟨hj, rfl⟩ := bys_get_of hv
    rw [HT.out] at hj
    rw [Addr.add_lit, HR.out j (by omega)]
    simp [byt, List.getD, hj]
  rintro e w2 ⟨rfl, hb2, hbe2, hk2⟩
  have HF2 := Lib.hid (blk_of_others hk2 (by decide) hFb HF.out)
  have HB2 := Lib.hid (isBuffer_far hb2 HF2.out (by decide) hFb 1 (.int .i64 0))
  have HBE2 := Lib.hid (hbe2.setCell (p := ⟨F, 1, none⟩) (by exact hBF) (.int .i64 0))
  have HK2 : Hid (KeptBut 5 b F w (w2.setCell ⟨F, 1, none⟩ (.int .i64 0))) := by
    show KeptBut _ _ _ _ _
    intro k t xs ht hkb hkF hx
    exact (blk_of_others hk2 ht hkb hx).far (p := ⟨F, 1, none⟩) hkF _
  have d1 : w2.cell? ⟨F, 1, none⟩ = some (.int .i64 nb) := by rw [HF2.out.cell]; rfl
  have d2 := HF2.out.frozen 1
  have d0 : w2.cell? ⟨F, 0, none⟩ = some (.iface 64 (.pointer (some ⟨b, 0, none⟩))) := by rw [HF2.out.cell]; rfl
  have HF3 := Lib.hid (HF2.out.set_ 1 (.int .i64 0))
  have k := (HE.out.below HBE2.out hC).cell
  unfold errV at k
  clear hb2 hbe2 hk2 c0 c1
  have hw : (nb : Int) - (nb : Int) = 0 := by omega
  go_wp2
  go_region_held3 (fun w' => w'.cell? ⟨1, 0, none⟩ = some (.iface 100 (.pointer (some a)))) (go_keep) (fail)
  go_wp2
  go_ret2
  exact ⟨rfl, HF3.out, HB2.out, HBE2.out.drew, fun k t xs q1 q2 q3 q4 => HK2.out k t xs q1 q2 q3 q4⟩
end Go.Proofs.YtiahifohkhdmdaaDoor
