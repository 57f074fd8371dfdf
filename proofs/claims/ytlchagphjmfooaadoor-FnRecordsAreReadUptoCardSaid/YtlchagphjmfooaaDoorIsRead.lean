/- FnRecordIsRead: plain words on a record as PutRecord writes it; the walk. -/
import Derived.Test.YtlchagphjmfooaaDoorRecJoin
import Derived.Test.YtlchagphjmfooaaDoorPutRec
namespace Go.Proofs.YtlchagphjmfooaaDoor
open Go.RowKit Go.PlainAid
set_option linter.unusedVariables false

theorem app_list (a b : ByteArray) : (a ++ b).data.toList = a.data.toList ++ b.data.toList := by simp
theorem findIdx_pre (l r : List UInt8) (c : UInt8) (h : ∀ x ∈ l, x ≠ c) : (l ++ c :: r).findIdx (· == c) = l.length := by
  induction l with
  | nil => simp [List.findIdx_cons]
  | cons x l ih =>
    have hx : (x == c) = false := by simpa using h x (by simp)
    rw [List.cons_append, List.findIdx_cons, hx, ih (fun y hy => h y (List.mem_cons_of_mem _ hy))]
    simp
theorem recR_list (k v : ByteArray) : (recR k v).data.toList = 32 :: (k.data.toList ++ 61 :: (v.data.toList ++ [10])) := by
  unfold recR
  simp only [app_list]
  simp
/-- A written record, with something behind it. -/
structure Wrote (s : ByteArray) (N : Nat) (k v : ByteArray) : Prop where
  eq : s = numB N ++ recR k v
  len : (numL N).length + (recR k v).size = N
theorem Wrote.size {s : ByteArray} {N : Nat} {k v : ByteArray} (h : Wrote s N k v) : s.size = N := by
  rw [h.eq, ByteArray.size_append, numB_size]; exact h.len
theorem Wrote.list {s : ByteArray} {N : Nat} {k v b : ByteArray} (h : Wrote s N k v) : (s ++ b).data.toList = numL N ++ 32 :: ((k.data.toList ++ 61 :: (v.data.toList ++ [10])) ++ b.data.toList) := by
  rw [app_list, h.eq, app_list, recR_list]
  simp [numB]
theorem Wrote.fc {s : ByteArray} {N : Nat} {k v b : ByteArray} (h : Wrote s N k v) : fc 32 (s ++ b) = (numL N).length := by
  unfold Go.Proofs.YtlchagphjmfooaaDoor.fc
  rw [h.list (b := b)]
  refine findIdx_pre _ _ _ fun x hx e => ?_
  have := numL_dig N x hx
  unfold dig at this
  rw [e] at this
  have e2 : (32 : UInt8).toNat = 32 := rfl
  omega
theorem Wrote.head {s : ByteArray} {N : Nat} {k v b : ByteArray} (h : Wrote s N k v) : (s ++ b).extract 0 (Go.Proofs.YtlchagphjmfooaaDoor.fc 32 (s ++ b)) = numB N := by
  apply ba_ext
  rw [h.fc, Lib.extract_data, h.list (b := b)]
  simp [numB]
theorem Wrote.rest {s : ByteArray} {N : Nat} {k v b : ByteArray} (h : Wrote s N k v) : (s ++ b).extract N (s ++ b).size = b := by
  apply ba_ext
  have e := h.size
  have e2 : s.data.toList.length = N := by rw [← Lib.size_eq]; exact e
  rw [Lib.extract_data, ByteArray.size_append, app_list, List.drop_left' e2]
  rw [e, Nat.add_sub_cancel_left, Lib.size_eq, List.take_length]
theorem numB_list (N : Nat) : (numB N).data.toList = numL N := by simp [numB]
/-- What is read is the written record's number; what is behind it is behind it. -/
theorem Wrote.read {s h : ByteArray} {N n : Nat} {k v b m k' v' r : ByteArray} (H : Wrote s N k v) (I : IsRec (s ++ b) h n m k' v' r) : r = b := by
  have e1 : h = numB N := I.hd.trans H.head
  have e2 : n = N := by rw [I.num, e1, numB_list, numL_vl]
  rw [I.rest, e2, H.rest]

set_option maxRecDepth 20000 in
set_option maxHeartbeats 800000 in
theorem isRead_big (k v b : ByteArray) (long : Bool) (w : World) (hs : 2147483647 < k.size ∨ 2147483647 < v.size ∨ 2147483647 < b.size) (h1 : k.size ≤ 9223372036854775807) (h2 : v.size ≤ 9223372036854775807) (h3 : b.size ≤ 9223372036854775807) :
    Calls Tryd.prog 4 #[.string k, .string v, .string b, .bool long] w fun e w' => e = .returned (.bool true) ∧ Below w.heap.size w w' := by
  by_cases c1 : 2147483647 < k.size
  · clear hs
    go_enter Tryd.func4, Tryd.ntmps4
    go_wp2_with fail
    go_ret
    exact ⟨rfl, Below.refl _ _⟩
  by_cases c2 : 2147483647 < v.size
  · clear hs
    go_enter Tryd.func4, Tryd.ntmps4
    go_wp2_with fail
    go_ret
    exact ⟨rfl, Below.refl _ _⟩
  have c3 : 2147483647 < b.size := by omega
  clear hs
  go_enter Tryd.func4, Tryd.ntmps4
  go_wp2_with fail
  go_ret
  exact ⟨rfl, Below.refl _ _⟩
theorem str_eq {a b : ByteArray} : (a.toList == b.toList) = decide (a = b) := by
  by_cases h : a = b
  · rw [h]; simp
  · rw [decide_eq_false h, beq_eq_false_iff_ne]
    intro h2
    rw [Lib.toList_data, Lib.toList_data] at h2
    exact h (ba_ext h2)

set_option maxRecDepth 20000 in
set_option maxHeartbeats 3200000 in
theorem isRead_walk {a a1 a2 : Addr} (k v b : ByteArray) (long : Bool) (w : World) (h1 : k.size ≤ 2147483647) (h2 : v.size ≤ 2147483647) (h3 : b.size ≤ 2147483647)
    (hE : Err w.heap.size w 0 a) (hE1 : Err w.heap.size w 6 a1) (hE2 : Err w.heap.size w 7 a2) :
    Calls Tryd.prog 4 #[.string k, .string v, .string b, .bool long] w fun e w' => e = .returned (.bool true) ∧ Below w.heap.size w w' := by
  have HE := Lib.hid hE
  clear hE hE1 hE2
  have hk2 : k.size ≤ 4611686018427387904 := by omega
  have hv2 : v.size ≤ 4611686018427387904 := by omega
  go_enter Tryd.func4, Tryd.ntmps4
  go_wp2_with fail
  refine (specPut k v long _ h1 h2).mono ?_
  rintro e w1 ⟨⟨j, j1, j2, j3, he⟩, hb1⟩
  obtain ⟨s, hs⟩ : ∃ s, numB ((recR k v).size + j) ++ recR k v = s := ⟨_, rfl⟩
  rw [hs] at he
  subst he
  have HW : Hid (Wrote s ((recR k v).size + j) k v) := Lib.hid ⟨hs.symm, by rw [j3]; omega⟩
  have hss : s.size ≤ 4294967400 := by rw [HW.out.size, recR_size]; omega
  have hcat : s.size + b.size ≤ 9223372036854775807 := by omega
  have hts : (s ++ b).size ≤ 281474976710656 := by rw [ByteArray.size_append]; omega
  have hts2 : (s ++ b).size ≤ 4611686018427387904 := by omega
  have HB0 : Hid (Below w.heap.size w (w.alloc (.cells #[.string k, .string v] 23))) := Lib.hid ((Below.refl _ w).alloc (Nat.le_refl _) _)
  have HK0 : Hid (Blk (w.alloc (.cells #[.string k, .string v] 23)) w.heap.size 23 [.string k, .string v]) := Lib.hid (two_blk0 w _ _ _)
  have HB1 : Hid (Below w.heap.size w w1) := Lib.hid (HB0.out.trans (hb1.mono HB0.out.size))
  have HK1 : Hid (Blk w1 w.heap.size 23 [.string k, .string v]) := Lib.hid (HK0.out.below hb1 HK0.out.lt)
  clear hb1 hs j1 j2 j3
  obtain ⟨K, V, T, x, HV⟩ : ∃ K V T x, Hid (readV (s ++ b) = ⟨K, V, T, x⟩) := ⟨_, _, _, _, Lib.hid rfl⟩
  by_cases hx : x = 1
  case neg =>
    have hx1 : (x == 1) = false := by rw [beq_eq_false_iff_ne]; exact hx
    have hx2 : (x != 1) = true := by rw [bne, hx1]; rfl
    clear hx
    go_wp2_with (first
      | (
        go_at_call 14
        refine (specRead' (s ++ b) _ _ _ _ _ hts2 HV).mono ?_
        rintro e w2 ⟨rfl, hb2⟩
        have HB2 : Hid (Below w.heap.size w w2) := Lib.hid (HB1.out.trans (hb2.mono HB1.out.size))
        clear hb2)
      | fail)
    go_ret
    exact ⟨rfl, HB2.out.alloc HB2.out.size _⟩
  subst hx
  have hr : ((readV (s ++ b)).v) = 1 := by rw [HV.out]
  obtain ⟨h, n, m, I⟩ := isRec_of hr
  rw [HV.out] at I
  have hT : T = b := HW.out.read I
  have HI := Lib.hid I
  clear I hr
  subst hT
  by_cases hK : K = k
  case neg =>
    have q1 : (K.toList == k.toList) = false := by rw [str_eq]; exact decide_eq_false hK
    clear hK
    go_wp2_with (first
      | (
        go_at_call 14
        refine (specRead' (s ++ T) _ _ _ _ _ hts2 HV).mono ?_
        rintro e w2 ⟨rfl, hb2⟩
        have HB2 : Hid (Below w.heap.size w w2) := Lib.hid (HB1.out.trans (hb2.mono HB1.out.size))
        have HK2 : Hid (Blk w2 w.heap.size 23 [.string k, .string v]) := Lib.hid (HK1.out.below hb2 HK1.out.lt)
        have p0 : w2.cell? ⟨w.heap.size, 0, none⟩ = some (.string k) := by rw [HK2.out.cell]; rfl
        have p1 : w2.cell? ⟨w.heap.size, 1, none⟩ = some (.string v) := by rw [HK2.out.cell]; rfl
        have p2 := HK2.out.lt
        have p3 := Nat.ne_of_lt p2
        clear hb2)
      | (go_at_call 15; refine (specHasNUL _ _ (by assumption)).mono ?_; (first | rw [HN.out] | rw [HN2.out]); rintro e w' ⟨rfl, rfl⟩))
    go_ret
    exact ⟨rfl, HB2.out.alloc HB2.out.size _⟩
  subst hK
  by_cases hV : V = v
  case neg =>
    have q1 : (V.toList == v.toList) = false := by rw [str_eq]; exact decide_eq_false hV
    clear hV
    go_wp2_with (first
      | (
        go_at_call 14
        refine (specRead' (s ++ T) _ _ _ _ _ hts2 HV).mono ?_
        rintro e w2 ⟨rfl, hb2⟩
        have HB2 : Hid (Below w.heap.size w w2) := Lib.hid (HB1.out.trans (hb2.mono HB1.out.size))
        have HK2 : Hid (Blk w2 w.heap.size 23 [.string K, .string v]) := Lib.hid (HK1.out.below hb2 HK1.out.lt)
        have p0 : w2.cell? ⟨w.heap.size, 0, none⟩ = some (.string K) := by rw [HK2.out.cell]; rfl
        have p1 : w2.cell? ⟨w.heap.size, 1, none⟩ = some (.string v) := by rw [HK2.out.cell]; rfl
        have p2 := HK2.out.lt
        have p3 := Nat.ne_of_lt p2
        clear hb2)
      | (go_at_call 15; refine (specHasNUL _ _ (by assumption)).mono ?_; (first | rw [HN.out] | rw [HN2.out]); rintro e w' ⟨rfl, rfl⟩))
    go_ret
    exact ⟨rfl, HB2.out.alloc HB2.out.size _⟩
  subst hV
  by_cases nk : fc 0 K < K.size
  · have HN : Hid (decide (fc 0 K < K.size) = true) := Lib.hid (decide_eq_true nk)
    clear nk
    go_wp2_with (first
      | (
        go_at_call 14
        refine (specRead' (s ++ T) _ _ _ _ _ hts2 HV).mono ?_
        rintro e w2 ⟨rfl, hb2⟩
        have HB2 : Hid (Below w.heap.size w w2) := Lib.hid (HB1.out.trans (hb2.mono HB1.out.size))
        have HK2 : Hid (Blk w2 w.heap.size 23 [.string K, .string V]) := Lib.hid (HK1.out.below hb2 HK1.out.lt)
        have p0 : w2.cell? ⟨w.heap.size, 0, none⟩ = some (.string K) := by rw [HK2.out.cell]; rfl
        have p1 : w2.cell? ⟨w.heap.size, 1, none⟩ = some (.string V) := by rw [HK2.out.cell]; rfl
        have p2 := HK2.out.lt
        have p3 := Nat.ne_of_lt p2
        clear hb2)
      | (go_at_call 15; refine (specHasNUL _ _ (by assumption)).mono ?_; (first | rw [HN.out] | rw [HN2.out]); rintro e w' ⟨rfl, rfl⟩))
    go_ret
    exact ⟨rfl, HB2.out.alloc HB2.out.size _⟩
  by_cases nv : fc 0 V < V.size
  · have HN : Hid (decide (fc 0 K < K.size) = false) := Lib.hid (decide_eq_false nk)
    have HN2 : Hid (decide (fc 0 V < V.size) = true) := Lib.hid (decide_eq_true nv)
    clear nk nv
    go_wp2_with (first
      | (
        go_at_call 14
        refine (specRead' (s ++ T) _ _ _ _ _ hts2 HV).mono ?_
        rintro e w2 ⟨rfl, hb2⟩
        have HB2 : Hid (Below w.heap.size w w2) := Lib.hid (HB1.out.trans (hb2.mono HB1.out.size))
        have HK2 : Hid (Blk w2 w.heap.size 23 [.string K, .string V]) := Lib.hid (HK1.out.below hb2 HK1.out.lt)
        have p0 : w2.cell? ⟨w.heap.size, 0, none⟩ = some (.string K) := by rw [HK2.out.cell]; rfl
        have p1 : w2.cell? ⟨w.heap.size, 1, none⟩ = some (.string V) := by rw [HK2.out.cell]; rfl
        have p2 := HK2.out.lt
        have p3 := Nat.ne_of_lt p2
        clear hb2)
      | (go_at_call 15; refine (specHasNUL _ _ (by assumption)).mono ?_; (first | rw [HN.out] | rw [HN2.out]); rintro e w' ⟨rfl, rfl⟩))
    go_ret
    exact ⟨rfl, HB2.out.alloc HB2.out.size _⟩
  have HN : Hid (decide (fc 0 K < K.size) = false) := Lib.hid (decide_eq_false nk)
  have HN2 : Hid (decide (fc 0 V < V.size) = false) := Lib.hid (decide_eq_false nv)
  have NK := Lib.hid nk
  have NV := Lib.hid nv
  clear nk nv
  go_wp2_with (first
    | (
      go_at_call 14
      refine (specRead' (s ++ T) _ _ _ _ _ hts2 HV).mono ?_
      rintro e w2 ⟨rfl, hb2⟩
      have HB2 : Hid (Below w.heap.size w w2) := Lib.hid (HB1.out.trans (hb2.mono HB1.out.size))
      have HK2 : Hid (Blk w2 w.heap.size 23 [.string K, .string V]) := Lib.hid (HK1.out.below hb2 HK1.out.lt)
      have p0 : w2.cell? ⟨w.heap.size, 0, none⟩ = some (.string K) := by rw [HK2.out.cell]; rfl
      have p1 : w2.cell? ⟨w.heap.size, 1, none⟩ = some (.string V) := by rw [HK2.out.cell]; rfl
      have p2 := HK2.out.lt
      have p3 := Nat.ne_of_lt p2
      clear hb2)
    | (go_at_call 15; refine (specHasNUL _ _ (by assumption)).mono ?_; (first | rw [HN.out] | rw [HN2.out]); rintro e w' ⟨rfl, rfl⟩)
    | (
      go_at_call 16
      refine (implRead_yes (C := 0) HI.out _ hts (HE.out.more (HB2.out.alloc HB2.out.size _)) NK.out NV.out).mono ?_
      unfold ImplPost
      rintro e w4 ⟨rfl, hb4⟩
      have HB4 : Hid (Below w.heap.size w w4) := Lib.hid ((HB2.out.alloc HB2.out.size _).trans (hb4.mono (HB2.out.alloc HB2.out.size _).size))
      have HK4 : Hid (Blk w4 w.heap.size 23 [.string K, .string V]) := Lib.hid ((HK2.out.alloc _).below hb4 (HK2.out.alloc _).lt)
      have r0 : w4.cell? ⟨w.heap.size, 0, none⟩ = some (.string K) := by rw [HK4.out.cell]; rfl
      have r1 : w4.cell? ⟨w.heap.size, 1, none⟩ = some (.string V) := by rw [HK4.out.cell]; rfl
      have r2 := HK4.out.lt
      have r3 := Nat.ne_of_lt r2
      clear hb4))
  go_ret
  exact ⟨rfl, HB4.out.alloc HB4.out.size _⟩
theorem fnIsRead_walk {a a1 a2 : Addr} (k v b : ByteArray) (long : Bool) (w : World) (h1 : k.size ≤ 9223372036854775807) (h2 : v.size ≤ 9223372036854775807) (h3 : b.size ≤ 9223372036854775807)
    (hE : Err w.heap.size w 0 a) (hE1 : Err w.heap.size w 6 a1) (hE2 : Err w.heap.size w 7 a2) :
    Calls Tryd.prog 4 #[.string k, .string v, .string b, .bool long] w fun e w' => e = .returned (.bool true) ∧ Below w.heap.size w w' := by
  by_cases hs : 2147483647 < k.size ∨ 2147483647 < v.size ∨ 2147483647 < b.size
  · exact isRead_big k v b long w hs h1 h2 h3
  · exact isRead_walk k v b long w (by omega) (by omega) (by omega) hE hE1 hE2
end Go.Proofs.YtlchagphjmfooaaDoor
