/- io.LimitReader, (*io.LimitedReader).Read, readAll, readSpecialFile over a bytes.Reader. -/
import Derived.Test.YtlchagphjmfooaaDoorBr
import Derived.LaidEql
import Derived.Deep.RegionWith
import Derived.StillTailTactics
namespace Go.Proofs.YtlchagphjmfooaaDoor
open Go.RowKit Go.PlainAid
set_option linter.unusedVariables false

theorem methBr (b : Nat) (w : World) : (method 149 126 (.pointer (some ⟨b, 0, none⟩)) "Read").run Tryd.prog w = .ok (178, .pointer (some ⟨b, 0, none⟩)) w := by kernel_rfl
theorem methLr (b : Nat) (w : World) : (method 149 198 (.pointer (some ⟨b, 0, none⟩)) "Read").run Tryd.prog w = .ok (187, .pointer (some ⟨b, 0, none⟩)) w := by kernel_rfl
theorem nilLr (f b : Nat) (w : World) : (nilAhead (f + 1) 198 (.pointer (some ⟨b, 0, none⟩)) "Read").run Tryd.prog w = .ok (some false) w := by kernel_rfl
/-- The cells of an io.LimitedReader over a bytes.Reader. -/
def lrCells (Br : Nat) (L : Int) : List Value := [.iface 126 (.pointer (some ⟨Br, 0, none⟩)), .int .i64 L]
/-- It stands at block Lr, over the reader at Br, with D left. -/
structure LrAt (Lr Br : Nat) (L : Int) (D : List UInt8) (w : World) : Prop where
  blk : Blk w Lr 200 (lrCells Br L)
  br : BrAt Br D w
theorem LrAt.drew {Lr Br : Nat} {L : Int} {D : List UInt8} {w : World} (h : LrAt Lr Br L D w) : LrAt Lr Br L D w.drew := ⟨h.blk.drewN 1, h.br.drew⟩
theorem LrAt.drewN {Lr Br : Nat} {L : Int} {D : List UInt8} {w : World} (h : LrAt Lr Br L D w) (q : Nat) : LrAt Lr Br L D (w.drewN q) := ⟨h.blk.drewN q, ⟨h.br.ex⟩⟩
theorem LrAt.far {Lr Br : Nat} {L : Int} {D : List UInt8} {S : List Nat} {w w' : World} (h : LrAt Lr Br L D w) (hf : Far S w w') (h1 : Br < Lr) (hS : ∀ k ∈ S, Lr < k) : LrAt Lr Br L D w' :=
  ⟨h.blk.of_far hf (fun hk => by have := hS _ hk; omega), h.br.far hf (fun k hk => by have := hS _ hk; omega)⟩
/-- What Read leaves that reads m bytes. -/
def LRead (T : TypeId) (Lr Br g : Nat) (L : Int) (m : Nat) (X D : List UInt8) (w0 : World) (w' : World) : Prop := LrAt Lr Br (L - m) (D.drop m) w' ∧ Blk w' g T (bys X) ∧ Far [Lr, Br, g] w0 w'
set_option maxRecDepth 20000 in
set_option maxHeartbeats 1600000 in
theorem limRead (T : TypeId) (Lr Br g n c m : Nat) (L : Int) (cur D : List UInt8) (w0 w : World) (hw : w = w0 ∨ w = w0.drew) (hl : LrAt Lr Br L D w) (hg : Blk w g T (bys cur)) (h1 : Br < Lr) (h2 : Lr < g) (hm : (D.take n).length = m) (hpos : 0 < m) (hfit : m ≤ cur.length) (hnc : n ≤ c) (hnn : n ≤ 4611686018427387904) (hL : (n : Int) ≤ L) (hL2 : L ≤ 4611686018427387904) :
    Calls Tryd.prog 187 #[.pointer (some ⟨Lr, 0, none⟩), .slice (some ⟨g, 0, none⟩) n c] w fun e w' => e = .returned (.tuple #[.int .i64 m, .nilIface]) ∧ LRead T Lr Br g L m (splice cur 0 (D.take n)) D w0 w' := by
  have c0 : w.cell? ⟨Lr, 0, none⟩ = some (.iface 126 (.pointer (some ⟨Br, 0, none⟩))) := by rw [hl.blk.cell]; rfl
  have c1 : w.cell? ⟨Lr, 1, none⟩ = some (.int .i64 L) := by rw [hl.blk.cell]; rfl
  have hme := methBr Br
  have HR := Lib.hid (bytesReadA T Br g 0 n c m cur D w hl.br hg (by omega) hm hpos (by omega) hnc hnn)
  have HLB := Lib.hid hl.blk
  have hmn : m ≤ n := by rw [← hm, List.length_take]; omega
  have hL0 : ¬ L ≤ 0 := by omega
  have hLn : ¬ L < (n : Int) := by omega
  have HF0 : Hid (Far [Lr, Br, g] w0 w) := Lib.hid (by rcases hw with rfl | rfl
                                                       · exact Far.refl _ _
                                                       · exact (Far.refl _ _).drew)
  clear hl hg hm hw
  go_enter Tryd.func187, Tryd.ntmps187
  go_wp2_with fail
  refine HR.out.mono ?_
  rintro e w2 ⟨rfl, q1, q2, q3⟩
  have HLB2 := Lib.hid (HLB.out.of_far q3 (by simp; omega))
  have d1 : w2.cell? ⟨Lr, 1, none⟩ = some (.int .i64 L) := by rw [HLB2.out.cell]; rfl
  have f1 := HLB2.out.frozen 1
  have HFAR : Hid (Far [Lr, Br, g] w (w2.setCell ⟨Lr, 1, none⟩ (.int .i64 (L - m)))) := Lib.hid ((Far.mono (T := [Lr, Br, g]) q3 (fun k _ hk => by simp at hk ⊢; omega)).setCell (p := ⟨Lr, 1, none⟩) (.inl (by simp)) _)
  have HST : Hid (LrAt Lr Br (L - m) (D.drop m) (w2.setCell ⟨Lr, 1, none⟩ (.int .i64 (L - m)))) := Lib.hid ⟨HLB2.out.set_ 1 _, q1.far (S := [Lr]) ((Far.refl [Lr] w2).setCell (p := ⟨Lr, 1, none⟩) (.inl (by simp)) _) (fun k hk => by simp at hk; omega)⟩
  have HG2 := Lib.hid (q2.far (p := ⟨Lr, 1, none⟩) (by show g ≠ Lr; omega) (.int .i64 (L - m)))
  have hwr : IntKind.i64.wrap (L - m) = L - m := IntWalk.i64_in _ (by omega)
  clear q1 q2 q3 c0 c1
  go_wp2
  go_ret2
  exact ⟨rfl, HST.out, HG2.out, HF0.out.trans HFAR.out⟩
set_option maxRecDepth 20000 in
set_option maxHeartbeats 1600000 in
theorem limReadE {a : Addr} (T : TypeId) (Lr Br g n c : Nat) (L : Int) (cur : List UInt8) (w0 w : World) (hw : w = w0 ∨ w = w0.drew) (hl : LrAt Lr Br L [] w) (hg : Blk w g T (bys cur)) (h1 : Br < Lr) (h2 : Lr < g) (hnc : n ≤ c) (hnn : n ≤ 4611686018427387904) (hL : (n : Int) ≤ L) (h0 : 0 < L) (hL2 : L ≤ 4611686018427387904)
    (hE : Err Br w 2 a) :
    Calls Tryd.prog 187 #[.pointer (some ⟨Lr, 0, none⟩), .slice (some ⟨g, 0, none⟩) n c] w fun e w' => e = .returned (.tuple #[.int .i64 0, errV a]) ∧ LRead T Lr Br g L 0 cur [] w0 w' := by
  have c0 : w.cell? ⟨Lr, 0, none⟩ = some (.iface 126 (.pointer (some ⟨Br, 0, none⟩))) := by rw [hl.blk.cell]; rfl
  have c1 : w.cell? ⟨Lr, 1, none⟩ = some (.int .i64 L) := by rw [hl.blk.cell]; rfl
  have hme := methBr Br
  have HR := Lib.hid (bytesReadE Br (some ⟨g, 0, none⟩) n c w hl.br hE)
  have HLB := Lib.hid hl.blk
  have HBB := Lib.hid hl.br
  have HG := Lib.hid hg
  have hL0 : ¬ L ≤ 0 := by omega
  have hLn : ¬ L < (n : Int) := by omega
  have HF0 : Hid (Far [Lr, Br, g] w0 w) := Lib.hid (by rcases hw with rfl | rfl
                                                       · exact Far.refl _ _
                                                       · exact (Far.refl _ _).drew)
  clear hl hg hw hE
  unfold errV at HR ⊢
  go_enter Tryd.func187, Tryd.ntmps187
  go_wp2_with fail
  refine HR.out.mono ?_
  rintro e w2 ⟨rfl, q, rfl⟩
  obtain ⟨w2, hw2⟩ : ∃ w2, w2 = w.drewN q := ⟨_, rfl⟩
  have HLB2 : Hid (Blk w2 Lr 200 (lrCells Br L)) := Lib.hid (by rw [hw2]; exact HLB.out.drewN q)
  have HG2 : Hid (Blk (w2.setCell ⟨Lr, 1, none⟩ (.int .i64 L)) g T (bys cur)) := Lib.hid (by rw [hw2]; exact (HG.out.drewN q).far (p := ⟨Lr, 1, none⟩) (by show g ≠ Lr; omega) _)
  have HFAR : Hid (Far [Lr, Br, g] w (w2.setCell ⟨Lr, 1, none⟩ (.int .i64 L))) := Lib.hid (by rw [hw2]; exact ((Far.refl _ w).drewN q).setCell (p := ⟨Lr, 1, none⟩) (.inl (by simp)) _)
  have HBB2 : Hid (BrAt Br [] w2) := Lib.hid (by rw [hw2]; exact ⟨HBB.out.ex⟩)
  rw [← hw2]
  have d1 : w2.cell? ⟨Lr, 1, none⟩ = some (.int .i64 L) := by rw [HLB2.out.cell]; rfl
  have f1 := HLB2.out.frozen 1
  have HST : Hid (LrAt Lr Br (L - (0 : Nat)) [] (w2.setCell ⟨Lr, 1, none⟩ (.int .i64 L))) := Lib.hid ⟨by rw [show L - ((0 : Nat) : Int) = L by omega]; exact HLB2.out.set_ 1 _, HBB2.out.far (S := [Lr]) ((Far.refl [Lr] w2).setCell (p := ⟨Lr, 1, none⟩) (.inl (by simp)) _) (fun k hk => by simp at hk; omega)⟩
  have hwr : IntKind.i64.wrap L = L := IntWalk.i64_in _ (by omega)
  have hwr2 : IntKind.i64.wrap (L - 0) = L := by rw [Int.sub_zero]; exact hwr
  clear hw2 c0 c1
  go_wp2
  go_ret2
  exact ⟨rfl, HST.out, HG2.out, HF0.out.trans HFAR.out⟩
end Go.Proofs.YtlchagphjmfooaaDoor
