/- Walks under the sparse reader: regFileReader.Read, tryReadFull. -/
import Derived.Test.YtiahifohkhdmdaaDoorSp1
import Derived.LaidEql
namespace Go.Proofs.YtiahifohkhdmdaaDoor
open Go.RowKit Go.PlainAid
set_option linter.unusedVariables false

/-- What is left to be read of the data of a file: D. -/
structure RdAt (C R Fr Br : Nat) (D : List UInt8) (w : World) : Prop where
  ex : ∃ (S : Option Addr) (N cc i : Nat) (all : List UInt8), Blk w Fr 80 [.iface 75 (.pointer (some ⟨Br, 0, none⟩)), .int .i64 D.length] ∧
    Blk w Br 94 (brCells S N cc i) ∧ all.length = N ∧ N ≤ cc ∧ N ≤ 70368744177664 ∧ D = all.drop i ∧ i ≤ N ∧ RB w C S all ∧ ∀ ad, S = some ad → ad.block < C ∧ ad.block ≠ Fr ∧ ad.block ≠ Br ∧ ad.block ≠ R

theorem RdAt.of_far {C R Fr Br : Nat} {D : List UInt8} {S : List Nat} {w w' : World} (h : RdAt C R Fr Br D w) (hf : Far S w w') (hC : C ≤ w.heap.size) (h1 : Fr ∉ S) (h2 : Br ∉ S) (hS : ∀ k ∈ S, C ≤ k ∨ k = R) : RdAt C R Fr Br D w' := by
  obtain ⟨A, N, cc, i, all, b1, b2, e1, e2, e3, e4, e5, hr, hA⟩ := h.ex
  exact ⟨A, N, cc, i, all, b1.of_far hf h1, b2.of_far hf h2, e1, e2, e3, e4, e5, hr.of_far hf hC (fun ad h hk => by have h1 := hS _ hk; have h2 := hA ad h; omega), hA⟩

theorem RdAt.drew {C R Fr Br : Nat} {D : List UInt8} {w : World} (h : RdAt C R Fr Br D w) : RdAt C R Fr Br D w.drew := ⟨h.ex⟩
theorem RdAt.drewN {C R Fr Br : Nat} {D : List UInt8} {w : World} (h : RdAt C R Fr Br D w) (n : Nat) : RdAt C R Fr Br D (w.drewN n) := ⟨h.ex⟩
theorem rdRead (b : Nat) (w : World) : (method 78 75 (.pointer (some ⟨b, 0, none⟩)) "Read").run Tryd.prog w = .ok (71, .pointer (some ⟨b, 0, none⟩)) w := by kernel_rfl

/-- What Read hands back beside its number. -/
def eofV (a : Addr) (end_ : Bool) : Value := if end_ then errV a else .nilIface

/-- What regFileReader.Read leaves. -/
def RegRead (C R Fr Br g off n : Nat) (a : Addr) (cur D : List UInt8) (w : World) (e : Ending) (w' : World) : Prop :=
  e = .returned (.tuple #[.int .i64 n, eofV a (decide (D.length = n))]) ∧ RdAt C R Fr Br (D.drop n) w' ∧ Blk w' g 5 (bys (splice cur off (D.take n))) ∧ Far [Fr, Br, g] w w'

set_option maxRecDepth 20000 in
set_option maxHeartbeats 1600000 in
theorem regRead (B C R Fr Br g off n c : Nat) (a : Addr) (cur D : List UInt8) (w : World) (h : RdAt C R Fr Br D w) (hg : Blk w g 5 (bys cur)) (hC : C ≤ w.heap.size) (hgC : C ≤ g) (hFr : Fr < C) (hBr : Br < C) (hne : Fr ≠ Br) (hBF : B ≤ Fr) (hBB : B ≤ Br)
    (hpos : 0 < n) (hn : n ≤ D.length) (hfit : off + n ≤ cur.length) (hE : Err B w 2 a) :
    Calls Tryd.prog 67 #[.pointer (some ⟨Fr, 0, none⟩), .slice (some ⟨g, off, none⟩) n c] w (RegRead C R Fr Br g off n a cur D w) := by
  obtain ⟨A, N, cc, i, all, b1, b2, e1, e2, e3, e4, e5, hr, hA⟩ := h.ex
  have hDl : D.length = N - i := by rw [e4, List.length_drop, e1]
  have hm := rdRead Br
  have c0 : w.cell? ⟨Fr, 0, none⟩ = some (.iface 75 (.pointer (some ⟨Br, 0, none⟩))) := by rw [b1.cell]; rfl
  have c1 : w.cell? ⟨Fr, 1, none⟩ = some (.int .i64 D.length) := by rw [b1.cell]; rfl
  have HR := Lib.hid (bytesRead Br g off n c N cc i C A cur all w b2 hg e1 hr hC (fun ad h => ⟨(hA ad h).2.2.1, by have := (hA ad h).1; omega⟩) (by omega) hpos (by omega) e2 (by omega) hfit)
  have HF := Lib.hid b1
  have HAA := Lib.hid hA
  have HRB := Lib.hid hr
  have HE := Lib.hid hE
  have H1 := Lib.hid e1
  have H4 := Lib.hid e4
  have HDL := Lib.hid hDl
  clear b1 b2 hr hA hE e1 e4 h hg hDl
  go_enter Tryd.func67, Tryd.ntmps67
  go_wp2_with fail
  refine HR.out.mono ?_
  rintro e w2 ⟨rfl, q1, q2, q3⟩
  rw [← H4.out] at q2
  have HF2 := Lib.hid (HF.out.of_far q3 (by simp; omega))
  have c0 : w2.cell? ⟨Fr, 0, none⟩ = some (.iface 75 (.pointer (some ⟨Br, 0, none⟩))) := by rw [HF2.out.cell]; rfl
  have c1 : w2.cell? ⟨Fr, 1, none⟩ = some (.int .i64 D.length) := by rw [HF2.out.cell]; rfl
  have f1 := HF2.out.frozen 1
  have HB2 := Lib.hid (q1.far (p := ⟨Fr, 1, none⟩) (Ne.symm hne) (.int .i64 ((D.length : Int) - n)))
  have HG2 := Lib.hid (q2.far (p := ⟨Fr, 1, none⟩) (by show g ≠ Fr; omega) (.int .i64 ((D.length : Int) - n)))
  have HF3 := Lib.hid (HF2.out.set_ 1 (.int .i64 ((D.length : Int) - n)))
  have HFAR := Lib.hid ((Far.mono (T := [Fr, Br, g]) q3 (fun k _ hk => by simp at hk ⊢; omega)).setCell (p := ⟨Fr, 1, none⟩) (.inl (by simp)) (.int .i64 ((D.length : Int) - n)))
  have hEb := HFAR.out.below (B := B) (fun k hk => by simp at hk; omega) (by omega)
  have k := (HE.out.below hEb (Nat.le_refl _)).cell
  have HRB2 := Lib.hid (HRB.out.of_far HFAR.out hC (fun ad h hk => by have := HAA.out ad h; simp at hk; omega))
  have HD : Hid (RdAt C R Fr Br (D.drop n) (w2.setCell ⟨Fr, 1, none⟩ (.int .i64 ((D.length : Int) - n)))) := Lib.hid ⟨A, N, cc, i + n, all, (by
      have hl : ((D.drop n).length : Int) = (D.length : Int) - n := by rw [List.length_drop]; omega
      rw [hl]; exact HF3.out), HB2.out, H1.out, e2, e3, (by rw [H4.out, List.drop_drop]), (by have := HDL.out; omega), HRB2.out, HAA.out⟩
  have hw : IntKind.i64.wrap ((D.length : Int) - n) = (D.length : Int) - n := IntWalk.i64_in _ (by have := HDL.out; omega)
  have heq := fun w => run_eql_iface_nil_left (P := Tryd.prog) w 100 (.pointer (some a)) Tryd.underlying53
  clear q1 q2 q3 hEb hm
  unfold errV at k
  by_cases hz : D.length = n
  · have e9 : Hid (decide (D.length = n) = true) := Lib.hid (by simpa using hz)
    have hz1 : ((D.length : Int) - n == 0) = true := by rw [beq_iff_eq]; omega
    have HZ := Lib.hid hz
    clear hz
    go_wp2
    go_region_held3 (fun w' => w'.cell? ⟨2, 0, none⟩ = some (.iface 100 (.pointer (some a)))) (go_keep) (fail)
    go_wp2
    go_ret2
    exact ⟨by rw [e9.out]; rfl, HD.out.drew, HG2.out, HFAR.out.drew⟩
  · have e9 : Hid (decide (D.length = n) = false) := Lib.hid (by simpa using hz)
    have hz1 : ((D.length : Int) - n == 0) = false := by rw [beq_eq_false_iff_ne]; omega
    have HZ := Lib.hid hz
    clear hz
    go_wp2
    go_ret2
    exact ⟨by rw [e9.out]; rfl, HD.out, HG2.out, HFAR.out⟩
end Go.Proofs.YtiahifohkhdmdaaDoor
