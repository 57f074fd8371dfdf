/- FnSparseRead: impl.SparseRead, and the law's own walk. -/
import Derived.Test.YtiahifohkhdmdaaDoorSpExp
import Derived.Test.YtiahifohkhdmdaaDoorGen
import Derived.Test.YtiahifohkhdmdaaDoorSame
namespace Go.Proofs.YtiahifohkhdmdaaDoor
open Go.RowKit Go.PlainAid
set_option linter.unusedVariables false

set_option maxRecDepth 20000 in
set_option maxHeartbeats 800000 in
theorem implSparseRead (A Ah Ac : Option Addr) (n c m ch kn cc : Nat) (D : List UInt8) (H : List (Int × Int)) (h : Int × Int) (T : List (Int × Int)) (ns : List Int) (a : Addr) (w : World) (hn : D.length = n) (hr : RB w w.heap.size A D)
    (hm : H.length = m) (hrh : RC w w.heap.size Ah (pcs H)) (hk : SpOk 0 H D h T) (hkn : ns.length = kn) (hrc : RC w w.heap.size Ac (nums ns)) (hns : ∀ k, k < kn → 0 ≤ nv ns k ∧ nv ns k ≤ 1073741824)
    (hmb : m ≤ 1000000) (hkb : kn ≤ 4611686018427) (hE : Err w.heap.size w 2 a) :
    Calls Tryd.prog 16 #[.slice A n c, .slice Ah m ch, .slice Ac kn cc] w (SpOut (strm 0 H D) ns kn w) := by
  have HR := Lib.hid hr
  have HRC := Lib.hid hrc
  have HE := Lib.hid hE
  have HZ := fun (A' Ah' : Option Addr) (ch' : Nat) (w' : World) (h1 : RB w' w'.heap.size A D) (h2 : RC w' w'.heap.size Ah' (pcs H)) (h3 : RC w' w'.heap.size Ac (nums ns)) (h4 : Err w'.heap.size w' 2 a) => zzSparseRead A Ah' Ac n c m ch' kn cc D H h T ns a w' hn h1 hm h2 hk hkn h3 hns hmb hkb h4
  have HZZ := Lib.hid HZ
  have HP := Lib.hid (implPieces_any Ah m ch w.heap.size H w hm hrh (Nat.le_refl _) (by omega))
  clear hn hr hm hrh hk hkn hrc hns hE HZ
  go_enter Tryd.func16, Tryd.ntmps16
  go_wp2_with fail
  refine HP.out.mono ?_
  rintro e w1 ⟨v, rfl, hv, hb⟩
  obtain ⟨Ah', ch', rfl, _, _, _⟩ := own_form hv
  have HRH := Lib.hid (RC.of_own hv)
  have HB := Lib.hid hb
  have hz := hb.size
  clear hv hb
  go_wp2_with fail
  refine (HZZ.out A Ah' ch' w1 ((HR.out.below HB.out).more hz) HRH.out ((HRC.out.below HB.out).more hz) (HE.out.more HB.out)).mono ?_
  rintro e w2 ⟨out, ends, rfl, q1, q2, q3⟩
  have Q1 := Lib.hid (own_more q1 hz)
  have Q2 := Lib.hid (own_more q2 hz)
  have Q3 := Lib.hid (HB.out.trans (q3.mono hz))
  clear q1 q2 q3
  go_wp2
  go_ret2
  exact ⟨_, _, rfl, Q1.out, Q2.out, Q3.out⟩
end Go.Proofs.YtiahifohkhdmdaaDoor
