/- FnReadRecord: its ways joined. -/
import Derived.Test.YtlchagphjmfooaaDoorRecLaw
namespace Go.Proofs.YtlchagphjmfooaaDoor
open Go.RowKit Go.PlainAid
set_option linter.unusedVariables false

set_option maxRecDepth 20000 in
set_option maxHeartbeats 800000 in
theorem fnRead_big (s : ByteArray) (w : World) (hs : 2147483647 < s.size) (hm : s.size ≤ 9223372036854775807) :
    Calls Tryd.prog 3 #[.string s] w fun e w' => e = .returned (.bool true) ∧ Below w.heap.size w w' := by
  go_enter Tryd.func3, Tryd.ntmps3
  go_wp2_with fail
  go_ret
  exact ⟨rfl, Below.refl _ _⟩
/-- impl.ReadRecord where the documents have no record. -/
theorem implRead_no {a a1 a2 : Addr} {s : ByteArray} (w : World) (hs : s.size ≤ 281474976710656) (hv : (readV s).v = 2)
    (hE : Err w.heap.size w 0 a) (h1 : Err w.heap.size w 6 a1) (h2 : Err w.heap.size w 7 a2) :
    Calls Tryd.prog 16 #[.string s] w (ImplPost ⟨#[]⟩ ⟨#[]⟩ s false w) :=
  impl_of s _ _ _ _ w fun w' hb => zz_no hv w' hs (hE.more hb) (h1.more hb) (h2.more hb)
/-- .. where they have one. -/
theorem implRead_yes {C : Nat} {a : Addr} {s h : ByteArray} {n : Nat} {m k v r : ByteArray} (H : IsRec s h n m k v r) (w : World) (hs : s.size ≤ 281474976710656) (hE : Err w.heap.size w 0 a) (nk : ¬ fc 0 k < k.size) (nv : ¬ fc 0 v < v.size) :
    Calls Tryd.prog 16 #[.string s] w (ImplPost k v r true w) :=
  impl_of s _ _ _ _ w fun w' hb => zz_yes H w' hs (hE.more hb) nk nv
theorem fnRead_walk {a a1 a2 : Addr} (s : ByteArray) (w : World) (hm : s.size ≤ 9223372036854775807)
    (hE : Err w.heap.size w 0 a) (h1 : Err w.heap.size w 6 a1) (h2 : Err w.heap.size w 7 a2) :
    Calls Tryd.prog 3 #[.string s] w fun e w' => e = .returned (.bool true) ∧ Below w.heap.size w w' := by
  by_cases hs : 2147483647 < s.size
  · exact fnRead_big s w hs hm
  obtain ⟨z1, z2, z3⟩ := readV_sizes s
  have hs2 : s.size ≤ 2147483647 := by omega
  have e : readV s = ⟨(readV s).key, (readV s).value, (readV s).rest, (readV s).v⟩ := rfl
  rcases z3 with hv | hv | hv
  · exact fnRead_open s _ _ _ w hs2 (Lib.hid (by rw [hv] at e; exact e))
  · have e' := e
    rw [hv] at e'
    by_cases nk : fc 0 (readV s).key < (readV s).key.size
    · exact fnRead_nul1 s _ _ _ w hs2 (Lib.hid e') z1 (Lib.hid (decide_eq_true nk))
    by_cases nv : fc 0 (readV s).value < (readV s).value.size
    · exact fnRead_nul2 s _ _ _ w hs2 (Lib.hid e') z1 z2 (Lib.hid (decide_eq_false nk)) (Lib.hid (decide_eq_true nv))
    obtain ⟨h, n, m, H⟩ := isRec_of hv
    exact fnRead_yes s _ _ _ w hs2 (Lib.hid e') z1 z2 (Lib.hid (decide_eq_false nk)) (Lib.hid (decide_eq_false nv)) (Lib.hid fun w' hb => implRead_yes (C := 0) H w' (by omega) (hE.more hb) nk nv)
  · exact fnRead_no s s w hs2 (Lib.hid (readV_no s hv)) (Lib.hid fun w' hb => implRead_no w' (by omega) hv (hE.more hb) (h1.more hb) (h2.more hb))
end Go.Proofs.YtlchagphjmfooaaDoor
