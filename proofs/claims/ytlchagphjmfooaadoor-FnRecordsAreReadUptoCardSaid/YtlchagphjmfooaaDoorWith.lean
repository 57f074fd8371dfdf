/- spec.with; spec.sparseKey. -/
import Derived.Test.YtlchagphjmfooaaDoorTab
import Derived.Test.YtlchagphjmfooaaDoorMap2
namespace Go.Proofs.YtlchagphjmfooaaDoor
open Go.RowKit Go.PlainAid Go.Maps
set_option linter.unusedVariables false

theorem srecinfo : (Tryd.prog.info? 23).map (fun i => (i.zero, i.size, i.bytes)) = some (some (.agg #[.string ⟨#[]⟩, .string ⟨#[]⟩]), 2, 32) := by kernel_rfl
theorem insT_none {r : ByteArray × ByteArray} : ∀ {l : List (ByteArray × ByteArray)}, (∀ x ∈ l, less r.1 x.1 = false) → insT r l = l ++ [r]
  | [], _ => rfl
  | x :: l, h => by
    rw [insT, if_neg (by rw [h x (by simp)]; simp), insT_none (fun y hy => h y (by simp [hy]))]
    rfl
theorem insT_first {r x : ByteArray × ByteArray} : ∀ {l : List (ByteArray × ByteArray)}, (∀ x ∈ l, less r.1 x.1 = false) → less r.1 x.1 = true → insT r (l ++ [x]) = l ++ [r] ++ [x]
  | [], _, hx => by simp [insT, hx]
  | y :: l, h, hx => by
    rw [List.cons_append, insT, if_neg (by rw [h y (by simp)]; simp), insT_first (fun z hz => h z (by simp [hz])) hx]
    rfl
theorem insT_in {r x : ByteArray × ByteArray} : ∀ {l : List (ByteArray × ByteArray)}, (∃ y ∈ l, less r.1 y.1 = true) → insT r (l ++ [x]) = insT r l ++ [x]
  | [], h => by obtain ⟨y, hy, _⟩ := h; simp at hy
  | y :: l, h => by
    rw [List.cons_append, insT, insT]
    by_cases hl : less r.1 y.1 = true
    · rw [if_pos hl, if_pos hl]; rfl
    · rw [if_neg hl, if_neg hl, insT_in (l := l)]
      · rfl
      · obtain ⟨z, hz, h2⟩ := h
        rcases List.mem_cons.1 hz with rfl | hz
        · exact absurd h2 hl
        · exact ⟨z, hz, h2⟩
def offT (r : ByteArray × ByteArray) (l : List (ByteArray × ByteArray)) : List (ByteArray × ByteArray) := l.filter fun x => !(bl x.1 == bl r.1)
/-- What spec.with has made of the first k records. -/
def WithAt (l : List (ByteArray × ByteArray)) (r : ByteArray × ByteArray) (k : Nat) (b : Bool) (q : List (ByteArray × ByteArray)) : Prop :=
  q.length ≤ k + 1 ∧ ((b = false ∧ q = offT r (l.take k) ∧ ∀ x ∈ offT r (l.take k), less r.1 x.1 = false) ∨ (b = true ∧ q = insT r (offT r (l.take k)) ∧ ∃ x ∈ offT r (l.take k), less r.1 x.1 = true))
theorem offT_len (r : ByteArray × ByteArray) (l : List (ByteArray × ByteArray)) (k : Nat) : (offT r (l.take k)).length ≤ k := by
  have h1 := List.length_filter_le (fun x : ByteArray × ByteArray => !(bl x.1 == bl r.1)) (l.take k)
  have h2 := List.length_take_le k l
  unfold offT
  omega
theorem offT_skip {l : List (ByteArray × ByteArray)} {r : ByteArray × ByteArray} {k : Nat} (hk : k < l.length) (h : bl (rk l k) = bl r.1) : offT r (l.take (k + 1)) = offT r (l.take k) := by
  rw [take_rec l k hk]
  unfold offT
  rw [List.filter_append]
  simp [h]
theorem offT_more {l : List (ByteArray × ByteArray)} {r : ByteArray × ByteArray} {k : Nat} (hk : k < l.length) (h : bl (rk l k) ≠ bl r.1) : offT r (l.take (k + 1)) = offT r (l.take k) ++ [(rk l k, rv l k)] := by
  rw [take_rec l k hk]
  unfold offT
  rw [List.filter_append]
  simp [h]
theorem WithAt.skip {l : List (ByteArray × ByteArray)} {r : ByteArray × ByteArray} {k : Nat} {b : Bool} {q : List (ByteArray × ByteArray)} (H : WithAt l r k b q) (hk : k < l.length) (h : bl (rk l k) = bl r.1) : WithAt l r (k + 1) b q := by
  unfold WithAt at *
  rw [offT_skip hk h]
  exact ⟨by omega, H.2⟩
theorem WithAt.ins {l : List (ByteArray × ByteArray)} {r : ByteArray × ByteArray} {k : Nat} {q : List (ByteArray × ByteArray)} (H : WithAt l r k false q) (hk : k < l.length) (h : bl (rk l k) ≠ bl r.1) (hl : less r.1 (rk l k) = true) : WithAt l r (k + 1) true (q ++ [r] ++ [(rk l k, rv l k)]) := by
  have h0 := offT_len r l k
  rcases H.2 with ⟨_, h1, h2⟩ | ⟨h, _⟩
  · refine ⟨by rw [h1]; simp; omega, .inr ⟨rfl, ?_, ?_⟩⟩
    · rw [offT_more hk h, h1]
      exact (insT_first h2 hl).symm
    · rw [offT_more hk h]
      exact ⟨(rk l k, rv l k), List.mem_append_right _ (List.mem_singleton.2 rfl), hl⟩
  · cases h
theorem WithAt.pass {l : List (ByteArray × ByteArray)} {r : ByteArray × ByteArray} {k : Nat} {q : List (ByteArray × ByteArray)} (H : WithAt l r k false q) (hk : k < l.length) (h : bl (rk l k) ≠ bl r.1) (hl : less r.1 (rk l k) = false) : WithAt l r (k + 1) false (q ++ [(rk l k, rv l k)]) := by
  have h0 := offT_len r l k
  rcases H.2 with ⟨_, h1, h2⟩ | ⟨h, _⟩
  · refine ⟨by rw [h1]; simp; omega, .inl ⟨rfl, by rw [offT_more hk h, h1], fun x hx => ?_⟩⟩
    rw [offT_more hk h] at hx
    rcases List.mem_append.1 hx with hx | hx
    · exact h2 x hx
    · rw [List.mem_singleton.1 hx]; exact hl
  · cases h
theorem WithAt.on {l : List (ByteArray × ByteArray)} {r : ByteArray × ByteArray} {k : Nat} {q : List (ByteArray × ByteArray)} (H : WithAt l r k true q) (hk : k < l.length) (h : bl (rk l k) ≠ bl r.1) : WithAt l r (k + 1) true (q ++ [(rk l k, rv l k)]) := by
  rcases H.2 with ⟨h, _⟩ | ⟨_, h1, y, hy, h2⟩
  · cases h
  · refine ⟨by have := H.1; simp; omega, .inr ⟨rfl, ?_, ?_⟩⟩
    · rw [offT_more hk h, insT_in ⟨y, hy, h2⟩, h1]
    · rw [offT_more hk h]
      exact ⟨y, by simp [hy], h2⟩
theorem WithAt.end1 {l : List (ByteArray × ByteArray)} {r : ByteArray × ByteArray} {q : List (ByteArray × ByteArray)} (H : WithAt l r l.length true q) : q = putT l r := by
  rcases H.2 with ⟨h, _⟩ | ⟨_, h1, _⟩
  · cases h
  · rw [h1, List.take_length]; rfl
theorem WithAt.end0 {l : List (ByteArray × ByteArray)} {r : ByteArray × ByteArray} {q : List (ByteArray × ByteArray)} (H : WithAt l r l.length false q) : q ++ [r] = putT l r := by
  rcases H.2 with ⟨_, h1, h2⟩ | ⟨h, _⟩
  · rw [List.take_length] at h1 h2
    rw [h1]
    exact (insT_none h2).symm
  · cases h
theorem toList_bl (a : ByteArray) : a.toList = bl a := Lib.toList_data a
def WithP (q : List (ByteArray × ByteArray)) (w : World) (e : Ending) (w' : World) : Prop :=
  ∃ v, e = .returned v ∧ w'.ownsRow w.heap.size 23 2 v q.length (recsV q) ∧ Below w.heap.size w w'

set_option maxRecDepth 20000 in
set_option maxHeartbeats 6400000 in
theorem specWith (A : Option Addr) (n c B : Nat) (l : List (ByteArray × ByteArray)) (K V : ByteArray) (w : World) (hn : l.length = n) (hr : RC w B A (recsV l)) (hB : B ≤ w.heap.size) (hbig : n ≤ 10000000) :
    Calls Tryd.prog 50 #[.slice A n c, .agg #[.string K, .string V]] w (WithP (putT l (K, V)) w) := by
  have HN := Lib.hid hn
  have HR := Lib.hid hr
  have HRB := Lib.hid (Blk.new w 23 [.string K, .string V])
  have HB0 := Lib.hid ((Below.refl w.heap.size w).alloc (Nat.le_refl _) (.cells #[.string K, .string V] 23))
  clear hn hr
  go_enter Tryd.func50, Tryd.ntmps50
  go_wp2
  go_loopw [5, 6, 11] (fun v f i wr => ∃ (k m : Nat) (b : Bool) (q : List (ByteArray × ByteArray)), k ≤ n ∧ i = .int .i64 k ∧ f = .bool b ∧ m ≤ k + 1 ∧ Hid (q.length = m) ∧ Hid (WithAt l (K, V) k b q) ∧ Hid (wr.ownsRow (w.heap.size + 1) 23 2 v m (recsV q)) ∧ Hid (Blk wr w.heap.size 23 [.string K, .string V]) ∧ Hid (Below w.heap.size w wr)) (fun _ _ i _ => n - (intOf i).toNat)
  case atStart => exact ⟨0, 0, false, [], by omega, rfl, rfl, by omega, Lib.hid rfl, Lib.hid ⟨by simp, .inl ⟨rfl, rfl, fun x hx => by simp [offT] at hx⟩⟩, Lib.hid (World.ownsRow_nil _ _ _ _), HRB, HB0⟩
  case round =>
    obtain ⟨k, m, b, q, hk, rfl, rfl, hm, hQ, hAt, hO, hRb, hW⟩ := hrel
    obtain ⟨A', c', rfl, _, _, _⟩ := own_form hO.out
    have p0 : wr.cell? ⟨w.heap.size, 0, none⟩ = some (.string K) := by rw [hRb.out.cell]; rfl
    have p1 : wr.cell? ⟨w.heap.size, 1, none⟩ = some (.string V) := by rw [hRb.out.cell]; rfl
    have hlt0 := hRb.out.lt
    by_cases hlt : k < n
    · obtain ⟨bb, off, rfl, _, hc1, hc2⟩ := (HR.out.below (hW.out.mono hB)).rec_ (k := k) (by rw [HN.out]; exact hlt)
      have hkl : k < l.length := by rw [HN.out]; exact hlt
      have HKL := Lib.hid hkl
      obtain ⟨X, hX⟩ : ∃ X, X = rk l k := ⟨_, rfl⟩
      obtain ⟨Y, hY⟩ : ∃ Y, Y = rv l k := ⟨_, rfl⟩
      have HX := Lib.hid hX
      have HY := Lib.hid hY
      rw [← hX] at hc1
      rw [← hY] at hc2
      have HW2 := Lib.hid (hW.out.alloc (o := .cells #[.string X, .string Y] 23) hW.out.size)
      have HRb2 := Lib.hid (hRb.out.alloc (.cells #[.string X, .string Y] 23))
      clear hkl hX hY
      by_cases he : bl X = bl K
      · have e1 : (X.toList == K.toList) = true := by rw [toList_bl, toList_bl, he]; simp
        have HNX := Lib.hid (hAt.out.skip HKL.out (by rw [← HX.out]; exact he))
        clear he
        go_wp2
        go_roundw
        case rel => exact ⟨k + 1, m, b, q, by omega, by go_num, rfl, by omega, hQ, HNX, Lib.hid (hO.out.alloc _), HRb2, HW2⟩
        case measure => simp [intOf]; omega
      · have e1 : (X.toList == K.toList) = false := by rw [toList_bl, toList_bl]; simpa using he
        have HE := Lib.hid he
        clear he
        have HG9 : Hid (w.heap.size + 1 ≤ wr.heap.size) := Lib.hid (by omega)
        cases b with
        | true =>
          have HNX := Lib.hid (hAt.out.on HKL.out (by rw [← HX.out]; exact HE.out))
          rw [← HX.out, ← HY.out] at HNX
          have HW3 := Lib.hid (HW2.out.alloc (o := .cells #[.string X, .string Y] 23) HW2.out.size)
          go_wp2_with (at_builtin; refine wpList_append_rc (o := ⟨some 36, _, _, _, _, _⟩) _ rfl (.tmp 33) (.tmp 35) _ rfl (w.heap.size + 1) 23 _ 2 32 Tryd.underlying47 srecinfo rfl (by omega) _ m _ rfl ((hO.out.alloc _).alloc _) _ 1 1 _ _ rfl rfl (rc_new2 _ _ _ _) (two_strs _ _) (by omega) (by omega) (by have := HG9.out; simp; omega) ?_)
          intro v' w1 h1 h2 h3
          have H1 : Hid (w1.ownsRow (w.heap.size + 1) 23 2 v' (m + 1) (recsV (q ++ [(X, Y)]))) := Lib.hid (by rw [recsV_append]; exact h1.out)
          have H2 := Lib.hid (HW3.out.grown h2.out (by have := HG9.out; simp; omega) (fun g hg => by have := (hO.out.lt g hg).1; omega))
          have H3 := Lib.hid ((HRb2.out.alloc (.cells #[.string X, .string Y] 23)).grown h2.out (fun hg => by have := (hO.out.lt _ hg.symm).1; omega))
          clear h1 h2 h3
          go_wp2
          go_roundw
          case rel => exact ⟨k + 1, m + 1, true, q ++ [(X, Y)], by omega, by go_num, rfl, by omega, Lib.hid (by rw [List.length_append, hQ.out]; rfl), HNX, H1, H3, H2⟩
          case measure => simp [intOf]; omega
        | false =>
          by_cases hl : less K X = true
          · have e2 : Op.bytesLess K.toList X.toList = true := by rw [toList_bl, toList_bl]; exact hl
            have HNX := Lib.hid (hAt.out.ins HKL.out (by rw [← HX.out]; exact HE.out) (by rw [← HX.out]; exact hl))
            rw [← HX.out, ← HY.out] at HNX
            have HW3 := Lib.hid (HW2.out.alloc (o := .cells #[.string K, .string V] 23) HW2.out.size)
            clear hl
            go_wp2_with (at_builtin; refine wpList_append_rc (o := ⟨some 32, _, _, _, _, _⟩) _ rfl (.tmp 29) (.tmp 31) _ rfl (w.heap.size + 1) 23 _ 2 32 Tryd.underlying47 srecinfo rfl (by omega) _ m _ rfl ((hO.out.alloc _).alloc _) _ 1 1 _ _ rfl rfl (rc_new2 _ _ _ _) (two_strs _ _) (by omega) (by omega) (by have := HG9.out; simp; omega) ?_)
            intro v' w1 h1 h2 h3
            obtain ⟨A5, c5, rfl, _, _, _⟩ := own_form h1.out
            have H1 : Hid (w1.ownsRow (w.heap.size + 1) 23 2 (.slice A5 (m + 1) c5) (m + 1) (recsV (q ++ [(K, V)]))) := Lib.hid (by rw [recsV_append]; exact h1.out)
            have H2 := Lib.hid (HW3.out.grown h2.out (by have := HG9.out; simp; omega) (fun g hg => by have := (hO.out.lt g hg).1; omega))
            have H3 := Lib.hid ((HRb2.out.alloc (.cells #[.string K, .string V] 23)).grown h2.out (fun hg => by have := (hO.out.lt _ hg.symm).1; omega))
            have HXB : Hid (Blk w1 wr.heap.size 23 [.string X, .string Y]) := Lib.hid (((Blk.new wr 23 [.string X, .string Y]).alloc (.cells #[.string K, .string V] 23)).grown h2.out (fun hg => by have := (hO.out.lt _ hg.symm).2; omega))
            have HS1 := Lib.hid h2.out.size
            have x0 : w1.cell? ⟨wr.heap.size, 0, none⟩ = some (.string X) := by rw [HXB.out.cell]; rfl
            have x1 : w1.cell? ⟨wr.heap.size, 1, none⟩ = some (.string Y) := by rw [HXB.out.cell]; rfl
            have HW4 := Lib.hid (H2.out.alloc (o := .cells #[.string X, .string Y] 23) H2.out.size)
            have HZ1 : Hid (w.heap.size + 1 ≤ w1.heap.size) := Lib.hid (by have := HG9.out; have := HS1.out; simp at this; omega)
            clear h1 h2 h3 p0 p1 hc1 hc2 hlt0 HS1
            go_wp2_with (at_builtin; refine wpList_append_rc (o := ⟨some 36, _, _, _, _, _⟩) _ rfl (.tmp 33) (.tmp 35) _ rfl (w.heap.size + 1) 23 _ 2 32 Tryd.underlying47 srecinfo rfl (by omega) _ (m + 1) _ rfl (H1.out.alloc _) _ 1 1 _ [.string X, .string Y] rfl rfl (RC.of_blk (Blk.new _ 23 [.string X, .string Y])) (two_strs _ _) (by omega) (by omega) (by have := HZ1.out; simp; omega) ?_)
            intro v6 w6 h1 h2 h3
            have H61 : Hid (w6.ownsRow (w.heap.size + 1) 23 2 v6 (m + 1 + 1) (recsV (q ++ [(K, V)] ++ [(X, Y)]))) := Lib.hid (by rw [recsV_append]; exact h1.out)
            have H62 := Lib.hid (HW4.out.grown h2.out (by have := HZ1.out; simp; omega) (fun g hg => by have := (H1.out.lt g hg).1; omega))
            have H63 := Lib.hid ((H3.out.alloc (.cells #[.string X, .string Y] 23)).grown h2.out (fun hg => by have := (H1.out.lt _ hg.symm).1; omega))
            clear h1 h2 h3
            go_wp2
            go_roundw
            case rel => exact ⟨k + 1, m + 1 + 1, true, q ++ [(K, V)] ++ [(X, Y)], by omega, by go_num, rfl, by have := HNX.out.1; simp [hQ.out] at this; omega, Lib.hid (by simp [hQ.out]), HNX, H61, H63, H62⟩
            case measure => simp [intOf]; omega
          · have hl' : less K X = false := by simpa using hl
            have e2 : Op.bytesLess K.toList X.toList = false := by rw [toList_bl, toList_bl]; exact hl'
            have HNX := Lib.hid (hAt.out.pass HKL.out (by rw [← HX.out]; exact HE.out) (by rw [← HX.out]; exact hl'))
            rw [← HX.out, ← HY.out] at HNX
            have HW3 := Lib.hid (HW2.out.alloc (o := .cells #[.string X, .string Y] 23) HW2.out.size)
            clear hl hl'
            go_wp2_with (at_builtin; refine wpList_append_rc (o := ⟨some 36, _, _, _, _, _⟩) _ rfl (.tmp 33) (.tmp 35) _ rfl (w.heap.size + 1) 23 _ 2 32 Tryd.underlying47 srecinfo rfl (by omega) _ m _ rfl ((hO.out.alloc _).alloc _) _ 1 1 _ _ rfl rfl (rc_new2 _ _ _ _) (two_strs _ _) (by omega) (by omega) (by have := HG9.out; simp; omega) ?_)
            intro v' w1 h1 h2 h3
            have H1 : Hid (w1.ownsRow (w.heap.size + 1) 23 2 v' (m + 1) (recsV (q ++ [(X, Y)]))) := Lib.hid (by rw [recsV_append]; exact h1.out)
            have H2 := Lib.hid (HW3.out.grown h2.out (by have := HG9.out; simp; omega) (fun g hg => by have := (hO.out.lt g hg).1; omega))
            have H3 := Lib.hid ((HRb2.out.alloc (.cells #[.string X, .string Y] 23)).grown h2.out (fun hg => by have := (hO.out.lt _ hg.symm).1; omega))
            clear h1 h2 h3
            go_wp2
            go_roundw
            case rel => exact ⟨k + 1, m + 1, false, q ++ [(X, Y)], by omega, by go_num, rfl, by omega, Lib.hid (by rw [List.length_append, hQ.out]; rfl), HNX, H1, H3, H2⟩
            case measure => simp [intOf]; omega
    · obtain rfl : k = n := by omega
      have hAt2 : WithAt l (K, V) l.length b q := by rw [HN.out]; exact hAt.out
      cases b with
      | true =>
        have HQ : Hid (putT l (K, V) = q) := Lib.hid hAt2.end1.symm
        clear hAt2
        go_wp2
        go_ret
        exact ⟨_, rfl, by rw [HQ.out, hQ.out]; exact own_base hO.out (by omega), hW.out⟩
      | false =>
        have HQ : Hid (putT l (K, V) = q ++ [(K, V)]) := Lib.hid hAt2.end0.symm
        have HW3 := Lib.hid (hW.out.alloc (o := .cells #[.string K, .string V] 23) hW.out.size)
        have HG9 : Hid (w.heap.size + 1 ≤ wr.heap.size) := Lib.hid (by omega)
        clear hAt2
        go_wp2_with (at_builtin; refine wpList_append_rc (o := ⟨some 43, _, _, _, _, _⟩) _ rfl (.tmp 40) (.tmp 42) _ rfl (w.heap.size + 1) 23 _ 2 32 Tryd.underlying47 srecinfo rfl (by omega) _ m _ rfl (hO.out.alloc _) _ 1 1 _ [.string K, .string V] rfl rfl (RC.of_blk (Blk.new _ 23 [.string K, .string V])) (two_strs _ _) (by omega) (by omega) (by have := HG9.out; simp; omega) ?_)
        intro v' w1 h1 h2 h3
        have H1 : Hid (w1.ownsRow (w.heap.size + 1) 23 2 v' (m + 1) (recsV (q ++ [(K, V)]))) := Lib.hid (by rw [recsV_append]; exact h1.out)
        have H2 := Lib.hid (HW3.out.grown h2.out (by have := HG9.out; simp; omega) (fun g hg => by have := (hO.out.lt g hg).1; omega))
        clear h1 h2 h3
        go_wp2
        go_ret
        exact ⟨_, rfl, by rw [HQ.out, List.length_append, hQ.out]; exact own_base H1.out (by omega), H2.out⟩
end Go.Proofs.YtlchagphjmfooaaDoor
