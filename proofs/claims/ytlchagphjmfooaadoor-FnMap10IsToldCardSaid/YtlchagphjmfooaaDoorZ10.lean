/- (*bytes.Reader).Len; ZZMap10 and impl.Map10, both ways. -/
import Derived.Test.YtlchagphjmfooaaDoorM10P
import Derived.Test.YtlchagphjmfooaaDoorConv
namespace Go.Proofs.YtlchagphjmfooaaDoor
open Go.RowKit Go.PlainAid
set_option linter.unusedVariables false

set_option maxRecDepth 20000 in
set_option maxHeartbeats 800000 in
theorem readerLen (Br : Nat) (D : List UInt8) (n : Nat) (w : World) (hb : BrAt Br D w) (hn : D.length = n) :
    Calls Tryd.prog 68 #[.pointer (some ⟨Br, 0, none⟩)] w fun e w' => e = .returned (.int .i64 n) ∧ ∃ q, w' = w.drewN q := by
  obtain ⟨S, N, cc, i, all, b, e1, e2, e3, e4, e5, hr, hA⟩ := hb.ex
  have hin : n = N - i := by rw [← hn, e4, List.length_drop, e1]
  have c0 : w.cell? ⟨Br, 0, none⟩ = some (.slice S N cc) := by rw [b.cell]; rfl
  have c1 : w.cell? ⟨Br, 1, none⟩ = some (.int .i64 i) := by rw [b.cell]; rfl
  have HN := Lib.hid hin
  clear b hb hr e1 e4 hA hn hin
  by_cases h0 : i = N
  · subst h0
    obtain rfl : n = 0 := by have := HN.out; omega
    go_enter Tryd.func68, Tryd.ntmps68
    go_wp2_with fail
    go_region_held3 (fun w' => w'.cell? ⟨Br, 0, none⟩ = some (.slice S i cc) ∧ w'.cell? ⟨Br, 1, none⟩ = some (.int .i64 i)) (go_keep) (fail)
    go_wp2
    go_ret
    exact ⟨rfl, 1, rfl⟩
  · have hge : ¬ N ≤ i := by omega
    have hw : IntKind.i64.wrap ((N : Int) - (i : Int)) = (n : Int) := by rw [IntWalk.i64_in _ (by omega)]; have := HN.out; omega
    have hw2 : IntKind.i64.wrap (n : Int) = (n : Int) := IntWalk.i64_in _ (by have := HN.out; omega)
    clear h0
    go_enter Tryd.func68, Tryd.ntmps68
    go_wp2_with fail
    go_region_held3 (fun w' => w'.cell? ⟨Br, 0, none⟩ = some (.slice S N cc) ∧ w'.cell? ⟨Br, 1, none⟩ = some (.int .i64 i)) (go_keep) (fail)
    go_wp2_with fail
    go_region_held3 (fun w' => w'.cell? ⟨Br, 0, none⟩ = some (.slice S N cc) ∧ w'.cell? ⟨Br, 1, none⟩ = some (.int .i64 i)) (go_keep) (fail)
    go_wp2
    go_ret
    exact ⟨rfl, 2, rfl⟩
/-- What ZZMap10 and impl.Map10 answer. -/
def Z10Yes (ps : List (Int × Int)) (rest : Nat) (w : World) (e : Ending) (w' : World) : Prop :=
  ∃ A c, e = .returned (.tuple #[.slice A ps.length c, .int .i64 rest, .bool true]) ∧ RC w' w'.heap.size A (pcs ps) ∧ Below w.heap.size w w'
def Z10No (w : World) (e : Ending) (w' : World) : Prop :=
  ∃ A c, e = .returned (.tuple #[.slice A 0 c, .int .i64 0, .bool false]) ∧ Below w.heap.size w w'
/-- What is said of readGNUSparseMap1x0 over the bytes D, whatever world comes behind w. -/
def RdYes (ps : List (Int × Int)) (D R : List UInt8) (w : World) : Prop := ∀ (w1 : World) (Br : Nat), Below w.heap.size w w1 → w.heap.size ≤ Br → BrAt Br D w1 →
  Calls Tryd.prog 67 #[.iface 126 (.pointer (some ⟨Br, 0, none⟩))] w1 fun e w' => ∃ v, e = .returned (.tuple #[v, .nilIface]) ∧ w'.ownsRow w1.heap.size 141 2 v ps.length (pcs ps) ∧ BrAt Br R w' ∧ Below Br w1 w'
def RdNo (D : List UInt8) (w : World) : Prop := ∀ (w1 : World) (Br : Nat), Below w.heap.size w w1 → w.heap.size ≤ Br → BrAt Br D w1 →
  Calls Tryd.prog 67 #[.iface 126 (.pointer (some ⟨Br, 0, none⟩))] w1 (RmNo Br w1)
theorem RdYes.below {ps : List (Int × Int)} {D R : List UInt8} {w w2 : World} (h : RdYes ps D R w) (hb : Below w.heap.size w w2) : RdYes ps D R w2 :=
  fun w1 Br h1 h2 h3 => h w1 Br (hb.trans (h1.mono hb.size)) (Nat.le_trans hb.size h2) h3
theorem RdNo.below {D : List UInt8} {w w2 : World} (h : RdNo D w) (hb : Below w.heap.size w w2) : RdNo D w2 :=
  fun w1 Br h1 h2 h3 => h w1 Br (hb.trans (h1.mono hb.size)) (Nat.le_trans hb.size h2) h3

set_option maxRecDepth 20000 in
set_option maxHeartbeats 3200000 in
theorem zzMap10_yes (A : Option Addr) (n c B rest : Nat) (D R : List UInt8) (ps : List (Int × Int)) (w : World) (hn : D.length = n) (hr : RB w B A D) (hB : B ≤ w.heap.size) (hbig : n ≤ 70368744177664) (hps : ps.length ≤ 1000000) (hR : R.length = rest) (hC : RdYes ps D R w) :
    Calls Tryd.prog 47 #[.slice A n c] w (Z10Yes ps rest w) := by
  have HN := Lib.hid hn
  have HRB := Lib.hid hr
  have HRL := Lib.hid hR
  have HC := Lib.hid hC
  have hneq := fun w => run_eql_nil_nil_at (P := Tryd.prog) (w := w) 105 isErr
  clear hn hr hR hC
  go_enter Tryd.func47, Tryd.ntmps47
  go_wp2_with fail
  refine (clone_any A n c B D w HN.out HRB.out hB hbig).mono ?_
  rintro e w1 ⟨v, rfl, ho, hb1⟩
  obtain ⟨A1, c1, rfl, _, hnc, hAl⟩ := own_form ho
  have HB1 := Lib.hid hb1
  have HRA := Lib.hid (BrAt.new (RB.of_RC (RC.of_own ho)) HN.out hnc hbig (fun ad h => (hAl ad h).2.1))
  clear ho hb1 hnc hAl
  go_wp2_with fail
  refine (newReader A1 n c1 w1).mono ?_
  rintro e w2 ⟨rfl, h2⟩
  rw [h2] at HRA
  have HB2 : Hid (Below w.heap.size w w2) := Lib.hid (HB1.out.trans (by rw [← h2]; exact (Below.refl _ _).alloc HB1.out.size _))
  have HW2 : Hid (w2.heap.size = w1.heap.size + 1) := Lib.hid (by rw [← h2]; simp)
  clear h2
  go_wp2_with fail
  refine (HC.out w2 w1.heap.size HB2.out HB1.out.size HRA.out).mono ?_
  rintro e w3 ⟨v, rfl, ho, hbr, hb3⟩
  obtain ⟨A3, c3, rfl, _, _, _⟩ := own_form ho
  have HR3 := Lib.hid (RC.of_own ho)
  have HBR := Lib.hid hbr
  have HB3 : Hid (Below w.heap.size w w3) := Lib.hid (HB2.out.trans (hb3.mono HB1.out.size))
  clear ho hbr hb3
  go_wp2_with fail
  refine (zzOut_any A3 ps.length c3 _ ps _ rfl HR3.out (Nat.le_refl _) (by omega)).mono ?_
  rintro e w4 ⟨v4, rfl, ho4, hb4⟩
  obtain ⟨A4, c4, rfl, _, _, _⟩ := own_form ho4
  have HBR4 := Lib.hid (HBR.out.below hb4 HBR.out.lt)
  have HB4 := Lib.hid (HB3.out.trans (hb4.mono HB3.out.size))
  have HR4 := Lib.hid (RC.of_own ho4)
  clear ho4 hb4
  go_wp2_with fail
  refine (readerLen w1.heap.size R rest w4 HBR4.out HRL.out).mono ?_
  rintro e w5 ⟨rfl, q, rfl⟩
  go_wp2
  go_ret3
  exact ⟨A4, c4, rfl, HR4.out, below_drewN HB4.out q⟩
set_option maxRecDepth 20000 in
set_option maxHeartbeats 3200000 in
theorem zzMap10_no (A : Option Addr) (n c B : Nat) (D : List UInt8) (w : World) (hn : D.length = n) (hr : RB w B A D) (hB : B ≤ w.heap.size) (hbig : n ≤ 70368744177664) (hC : RdNo D w) :
    Calls Tryd.prog 47 #[.slice A n c] w (Z10No w) := by
  have HN := Lib.hid hn
  have HRB := Lib.hid hr
  have HC := Lib.hid hC
  have hneq2 := fun w x => run_eql_iface_nil (P := Tryd.prog) (w := w) 105 isErr 226 x
  clear hn hr hC
  go_enter Tryd.func47, Tryd.ntmps47
  go_wp2_with fail
  refine (clone_any A n c B D w HN.out HRB.out hB hbig).mono ?_
  rintro e w1 ⟨v, rfl, ho, hb1⟩
  obtain ⟨A1, c1, rfl, _, hnc, hAl⟩ := own_form ho
  have HB1 := Lib.hid hb1
  have HRA := Lib.hid (BrAt.new (RB.of_RC (RC.of_own ho)) HN.out hnc hbig (fun ad h => (hAl ad h).2.1))
  clear ho hb1 hnc hAl
  go_wp2_with fail
  refine (newReader A1 n c1 w1).mono ?_
  rintro e w2 ⟨rfl, h2⟩
  rw [h2] at HRA
  have HB2 : Hid (Below w.heap.size w w2) := Lib.hid (HB1.out.trans (by rw [← h2]; exact (Below.refl _ _).alloc HB1.out.size _))
  have HW2 : Hid (w2.heap.size = w1.heap.size + 1) := Lib.hid (by rw [← h2]; simp)
  clear h2
  go_wp2_with fail
  refine (HC.out w2 w1.heap.size HB2.out HB1.out.size HRA.out).mono ?_
  unfold RmNo errV
  rintro e w3 ⟨⟨x, rfl⟩, hb3⟩
  have HB3 : Hid (Below w.heap.size w w3) := Lib.hid (HB2.out.trans (hb3.mono HB1.out.size))
  clear hb3
  go_wp2
  go_ret3
  exact ⟨none, 0, rfl, HB3.out⟩
set_option maxRecDepth 20000 in
set_option maxHeartbeats 1600000 in
theorem implMap10_yes (A : Option Addr) (n c B rest : Nat) (D R : List UInt8) (ps : List (Int × Int)) (w : World) (hn : D.length = n) (hr : RB w B A D) (hB : B ≤ w.heap.size) (hbig : n ≤ 70368744177664) (hps : ps.length ≤ 1000000) (hR : R.length = rest) (hC : RdYes ps D R w) :
    Calls Tryd.prog 28 #[.slice A n c] w (Z10Yes ps rest w) := by
  have HZ := Lib.hid (zzMap10_yes A n c B rest D R ps w hn hr hB hbig hps hR hC)
  clear hn hr hR hC
  go_enter Tryd.func28, Tryd.ntmps28
  go_wp2_with fail
  refine HZ.out.mono ?_
  rintro e w2 ⟨A3, c3, rfl, hr3, hb3⟩
  have HR3 := Lib.hid hr3
  have HB3 := Lib.hid hb3
  clear hr3 hb3
  go_wp2_with fail
  refine (implBack_any A3 ps.length c3 _ ps _ rfl HR3.out (Nat.le_refl _) (by omega)).mono ?_
  rintro e w3 ⟨v4, rfl, ho4, hb4⟩
  obtain ⟨A4, c4, rfl, _, _, _⟩ := own_form ho4
  have HB4 := Lib.hid (HB3.out.trans (hb4.mono HB3.out.size))
  have HR4 := Lib.hid (RC.of_own ho4)
  clear ho4 hb4
  go_wp2
  go_ret3
  exact ⟨A4, c4, rfl, HR4.out, HB4.out⟩
set_option maxRecDepth 20000 in
set_option maxHeartbeats 1600000 in
theorem implMap10_no (A : Option Addr) (n c B : Nat) (D : List UInt8) (w : World) (hn : D.length = n) (hr : RB w B A D) (hB : B ≤ w.heap.size) (hbig : n ≤ 70368744177664) (hC : RdNo D w) :
    Calls Tryd.prog 28 #[.slice A n c] w (Z10No w) := by
  have HZ := Lib.hid (zzMap10_no A n c B D w hn hr hB hbig hC)
  clear hn hr hC
  go_enter Tryd.func28, Tryd.ntmps28
  go_wp2_with fail
  refine HZ.out.mono ?_
  rintro e w2 ⟨A3, c3, rfl, hb3⟩
  have HB3 := Lib.hid hb3
  clear hb3
  go_wp2_with fail
  refine (implBack_any A3 0 c3 0 [] _ rfl RC.nil_ (Nat.zero_le _) (by omega)).mono ?_
  rintro e w3 ⟨v4, rfl, ho4, hb4⟩
  obtain ⟨A4, c4, rfl, _, _, _⟩ := own_form ho4
  have HB4 := Lib.hid (HB3.out.trans (hb4.mono HB3.out.size))
  clear ho4 hb4
  go_wp2
  go_ret3
  exact ⟨A4, c4, rfl, HB4.out⟩
end Go.Proofs.YtlchagphjmfooaaDoor
