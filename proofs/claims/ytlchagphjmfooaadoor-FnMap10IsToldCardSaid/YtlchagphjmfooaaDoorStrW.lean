/- Rows of strings and of records; joined texts; zzSplit. -/
import Derived.Test.YtlchagphjmfooaaDoorNumW
import Derived.Test.YtlchagphjmfooaaDoorCut
import Derived.Test.YtlchagphjmfooaaDoorPieces
import Derived.Laws.AppendOwn
namespace Go.Proofs.YtlchagphjmfooaaDoor
open Go.RowKit Go.PlainAid
set_option linter.unusedVariables false

theorem strinfo : (Tryd.prog.info? 9).map (fun i => (i.zero, i.size, i.bytes)) = some (some (.string ⟨#[]⟩), 1, 16) := by kernel_rfl
theorem mkS_len (l : List UInt8) : (mkS l).size = l.length := by show l.toArray.size = _; simp
theorem mkS_list (l : List UInt8) : (mkS l).data.toList = l := by simp [mkS]
theorem mkS_cat (a b : List UInt8) : mkS a ++ mkS b = mkS (a ++ b) := by
  apply ByteArray.ext
  simp [mkS]
/-- A row of strings. -/
def strs (L : List (List UInt8)) : List Value := L.map fun l => .string (mkS l)
theorem length_strs (L : List (List UInt8)) : (strs L).length = L.length := by simp [strs]
theorem strs_snoc (L : List (List UInt8)) (l : List UInt8) : strs (L ++ [l]) = strs L ++ [.string (mkS l)] := by simp [strs]
theorem strs_get (L : List (List UInt8)) (k : Nat) (l : List UInt8) (h : L[k]? = some l) : (strs L)[k]? = some (.string (mkS l)) := by simp [strs, h]
theorem strs_one (L : List (List UInt8)) : ∀ u ∈ strs L, u.oneCell' = true := by
  intro u hu
  obtain ⟨_, _, rfl⟩ := List.mem_map.1 hu
  rfl
/-- Texts with a comma between each two. -/
def jn : List (List UInt8) → List UInt8
  | [] => []
  | [a] => a
  | a :: b :: r => a ++ 44 :: jn (b :: r)
theorem jn_cons (a : List UInt8) {r : List (List UInt8)} (h : r ≠ []) : jn (a :: r) = a ++ 44 :: jn r := by
  cases r with
  | nil => exact absurd rfl h
  | cons b r => rfl
theorem jn_snoc : ∀ (L : List (List UInt8)) (b : List UInt8), L ≠ [] → jn (L ++ [b]) = jn L ++ 44 :: b
  | [], _, h => absurd rfl h
  | [a], b, _ => rfl
  | a :: c :: r, b, _ => by
    have h := jn_snoc (c :: r) b (by simp)
    show a ++ 44 :: jn ((c :: r) ++ [b]) = _
    rw [h]
    show _ = (a ++ 44 :: jn (c :: r)) ++ 44 :: b
    simp
theorem jn_len_ge : ∀ (L : List (List UInt8)), L.length ≤ (jn L).length + 1
  | [] => by simp
  | [a] => by simp
  | a :: c :: r => by
    have h := jn_len_ge (c :: r)
    show _ ≤ (a ++ 44 :: jn (c :: r)).length + 1
    simp only [List.length_cons, List.length_append] at h ⊢
    omega
theorem fc_mkS {a : List UInt8} {r : List UInt8} (h : ∀ c ∈ a, c ≠ 44) : fc 44 (mkS (a ++ 44 :: r)) = a.length := by
  unfold fc
  rw [mkS_list, List.findIdx_append, List.findIdx_eq_length.2 (by simpa using h)]
  simp [List.findIdx_cons]
theorem fc_none {a : List UInt8} (h : ∀ c ∈ a, c ≠ 44) : fc 44 (mkS a) = a.length := by
  unfold fc
  rw [mkS_list, List.findIdx_eq_length.2 (by simpa using h)]
theorem mkS_pre (a r : List UInt8) : (mkS (a ++ 44 :: r)).extract 0 a.length = mkS a := by
  apply ba_ext
  rw [Lib.extract_data, mkS_list, mkS_list]
  simp
theorem mkS_post (a r : List UInt8) : (mkS (a ++ 44 :: r)).extract (a.length + 1) (mkS (a ++ 44 :: r)).size = mkS r := by
  apply ba_ext
  rw [Lib.extract_data, mkS_list, mkS_list, mkS_len]
  simp
  exact List.take_of_length_le (by omega)
def strSize : Value → Nat
  | .string s => s.size
  | _ => 0
/-- A row of strings in memory of the call's own. -/
def MadeS (L : List (List UInt8)) (w : World) (en : Ending) (w' : World) : Prop :=
  ∃ v, en = .returned v ∧ w'.ownsRow w.heap.size 9 1 v L.length (strs L) ∧ Below w.heap.size w w'

set_option maxRecDepth 20000 in
set_option maxHeartbeats 1600000 in
theorem zzSplit_jn (L : List (List UInt8)) (w : World) (hL : L ≠ []) (hc : ∀ l ∈ L, ∀ c ∈ l, c ≠ 44) (hs : (jn L).length ≤ 2147483647) :
    Calls Tryd.prog 76 #[.string (mkS (jn L)), .string ⟨#[44]⟩] w (MadeS L w) := by
  have HL := Lib.hid (List.length_pos_iff.2 hL)
  have HC := Lib.hid hc
  have hn := jn_len_ge L
  have hn2 : L.length ≤ 2147483648 := by omega
  have HS := Lib.hid hs
  clear hL hc hs hn
  go_enter Tryd.func76, Tryd.ntmps76
  go_wp2
  go_loopw [0, 5] (fun s v wr => ∃ (k : Nat) (M : List (List UInt8)), k < L.length ∧ s = .string (mkS (jn M)) ∧ Hid (L.drop k = M ∧ (jn M).length ≤ 2147483647) ∧ Hid (wr.ownsRow w.heap.size 9 1 v k (strs (L.take k))) ∧ Hid (Below w.heap.size w wr)) (fun s _ _ => strSize s)
  case atStart => exact ⟨0, L, HL.out, rfl, Lib.hid ⟨rfl, HS.out⟩, Lib.hid (World.ownsRow_nil _ _ _ _), Lib.hid (Below.refl _ _)⟩
  case round =>
    obtain ⟨k, M, hk, rfl, hM, hO, hB⟩ := hrel
    obtain ⟨A', c', rfl, _, _, _⟩ := own_form hO.out
    have hMl : M.length = L.length - k := by rw [← hM.out.1, List.length_drop]
    cases M with
    | nil => simp at hMl; omega
    | cons a r =>
      have HA : Hid (L[k]? = some a) := Lib.hid (by
        have := congrArg (·[0]?) hM.out.1
        simpa [List.getElem?_drop] using this)
      have HMEM := Lib.hid (HC.out a (List.mem_of_getElem? HA.out))
      have HT : Hid (L.take (k + 1) = L.take k ++ [a]) := Lib.hid (by
        obtain ⟨h1, h2⟩ := List.getElem?_eq_some_iff.1 HA.out
        rw [List.take_succ_eq_append_getElem h1, h2])
      have HML := Lib.hid hMl
      clear hMl
      by_cases hr : r = []
      · subst hr
        have hkl : k + 1 = L.length := by have := HML.out; simp at this; omega
        have HKL := Lib.hid hkl
        have HI : Hid (idxI 44 (mkS (jn [a])) = -1) := Lib.hid (by unfold idxI; rw [show jn [a] = a from rfl, fc_none HMEM.out, mkS_len, if_neg (by omega)])
        have HSZ : Hid ((mkS (jn [a])).size ≤ 4611686018427387904) := Lib.hid (by rw [mkS_len]; have := hM.out.2; omega)
        have HE : Hid (strs (L.take k) ++ [.string (mkS (jn [a]))] = strs L) := Lib.hid (by
          rw [show jn [a] = a from rfl, ← strs_snoc, ← HT.out, HKL.out, List.take_length])
        obtain ⟨S, hS⟩ : ∃ S, S = mkS (jn [a]) := ⟨_, rfl⟩
        rw [← hS] at HI HSZ HE ⊢
        clear hkl hS
        go_wp2_with fail
        refine (zzIndex1 S 44 _ HSZ.out).mono ?_
        rw [HI.out]
        rintro e w1 ⟨rfl, rfl⟩
        have HB2 := Lib.hid (hB.out.alloc (o := .cells #[.string S] 9) hB.out.size)
        go_wp2_with (refine wpList_append_rc (o := ⟨some 15, _, _, _, _, _⟩) _ rfl (.tmp 12) (.tmp 14) _ rfl w.heap.size 9 _ 1 16 Tryd.underlying138 strinfo rfl (by omega) _ k _ rfl (hO.out.alloc _) _ 1 1 _ [.string S] rfl rfl (RC.of_blk (Blk.new _ 9 [.string S])) (by intro u hu; rw [List.mem_singleton.1 hu]; rfl) (by omega) (by omega) (by have := hB.out.size; simp; omega) ?_)
        intro v' w1 h1 h2 h3
        have H1 := Lib.hid h1.out
        have H2 := Lib.hid (HB2.out.grown h2.out (by have := hB.out.size; simp; omega) (fun g hg => (hO.out.lt g hg).1))
        clear h1 h2 h3
        go_wp2
        go_ret
        exact ⟨v', rfl, by have h := H1.out; rw [HE.out, HKL.out] at h; exact h, H2.out⟩
      · have HJ : Hid (jn (a :: r) = a ++ 44 :: jn r) := Lib.hid (jn_cons a hr)
        have hkl : k + 1 < L.length := by
          have := HML.out
          have := List.length_pos_iff.2 hr
          simp at *
          omega
        have HI : Hid (idxI 44 (mkS (jn (a :: r))) = (a.length : Int) ∧ a.length < (mkS (jn (a :: r))).size) := Lib.hid (by
          have h2 : a.length < (mkS (a ++ 44 :: jn r)).size := by rw [mkS_len, List.length_append, List.length_cons]; omega
          unfold idxI
          rw [HJ.out, fc_mkS HMEM.out, if_pos h2]
          exact ⟨rfl, h2⟩)
        have HSZ : Hid ((mkS (jn (a :: r))).size ≤ 2147483647) := Lib.hid (by rw [mkS_len]; exact hM.out.2)
        have HPR : Hid ((mkS (jn (a :: r))).extract 0 a.length = mkS a) := Lib.hid (by rw [HJ.out]; exact mkS_pre _ _)
        have HPO : Hid ((mkS (jn (a :: r))).extract (a.length + 1) (mkS (jn (a :: r))).size = mkS (jn r)) := Lib.hid (by rw [HJ.out]; exact mkS_post _ _)
        have HDR : Hid (L.drop (k + 1) = r ∧ (jn r).length ≤ 2147483647) := Lib.hid ⟨by rw [← List.drop_drop, hM.out.1]; rfl, by have := hM.out.2; rw [HJ.out, List.length_append, List.length_cons] at this; omega⟩
        have HLT : Hid ((mkS (jn r)).size < (mkS (jn (a :: r))).size) := Lib.hid (by rw [mkS_len, mkS_len, HJ.out, List.length_append, List.length_cons]; omega)
        obtain ⟨S, hS⟩ : ∃ S, S = mkS (jn (a :: r)) := ⟨_, rfl⟩
        obtain ⟨S2, hS2⟩ : ∃ S2, S2 = mkS (jn r) := ⟨_, rfl⟩
        obtain ⟨i, hi⟩ : ∃ i, i = a.length := ⟨_, rfl⟩
        have HS2 := Lib.hid hS2
        rw [← hS, ← hi] at HI HPR HPO
        rw [← hS] at HSZ HLT ⊢
        rw [← hS2] at HPO HLT
        have hb1 : (i : Int) < (S.size : Int) := by have := HI.out.2; omega
        have hb2 := HSZ.out
        have hb3 : (i : Int) ≤ (S.size : Int) := by omega
        have hb4 : (i : Int) + 1 ≤ (S.size : Int) := by omega
        clear hr hS hS2 hi
        go_wp2_with fail
        refine (zzIndex1 S 44 _ (by have := HSZ.out; omega)).mono ?_
        rw [HI.out.1]
        rintro e w1 ⟨rfl, rfl⟩
        have HB2 := Lib.hid (hB.out.alloc (o := .cells #[.string (S.extract 0 i)] 9) hB.out.size)
        go_wp2_with (refine wpList_append_rc (o := ⟨some 21, _, _, _, _, _⟩) _ rfl (.tmp 16) (.tmp 20) _ rfl w.heap.size 9 _ 1 16 Tryd.underlying138 strinfo rfl (by omega) _ k _ rfl (hO.out.alloc _) _ 1 1 _ [.string (S.extract 0 i)] rfl rfl (RC.of_blk (Blk.new _ 9 [.string (S.extract 0 i)])) (by intro u hu; rw [List.mem_singleton.1 hu]; rfl) (by omega) (by omega) (by have := hB.out.size; simp; omega) ?_)
        intro v' w1 h1 h2 h3
        have H1 : Hid (w1.ownsRow w.heap.size 9 1 v' (k + 1) (strs (L.take (k + 1)))) := Lib.hid (by
          have h := h1.out
          rw [HPR.out, ← strs_snoc, ← HT.out] at h
          exact h)
        have H2 := Lib.hid (HB2.out.grown h2.out (by have := hB.out.size; simp; omega) (fun g hg => (hO.out.lt g hg).1))
        clear h1 h2 h3
        go_wp2
        go_roundw
        case rel => exact ⟨k + 1, r, hkl, by rw [HPO.out, HS2.out], HDR, H1, H2⟩
        case measure => rw [HPO.out]; simpa [strSize] using HLT.out
end Go.Proofs.YtlchagphjmfooaaDoor
