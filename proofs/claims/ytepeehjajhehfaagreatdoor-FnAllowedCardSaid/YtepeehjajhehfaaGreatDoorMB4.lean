/- More words on blocks that are known whole: append within the capacity, rows given by a function. Over any program. No condition. slices.Sorted(maps.Keys(m)) at this dump; zzSorted. laws.records, impl.records, spec.Find, spec.Has: lists of up to 2^33 records. -/
import Derived.Test.YtepeehjajhehfaaGreatDoorMA1
import Derived.Test.YtepeehjajhehfaaGreatDoorIter
import Derived.Test.YtepeehjajhehfaaGreatDoorMA8
import Derived.Test.YtepeehjajhehfaaGreatDoorMA2
namespace Go.Proofs.YtepeehjajhehfaaGreatDoor
open Go.RowKit

section
variable {P : Program}
end

/-! ### Rows given by a function -/
end Go.Proofs.YtepeehjajhehfaaGreatDoor
namespace Go.Proofs.YtepeehjajhehfaaGreatDoor
open Go.RowKit Go.PlainAid Go.Maps Go.Sort Go.Shelf Go.ChangeMaps Go.MapKept Go.WideMaps
set_option linter.unusedVariables false

theorem own_bs {w : World} {base b n : Nat} {e : TypeId} {size : Nat} {v : Value} {xs : List Value} (h : w.ownsRow base e size v n xs) (hb : b ≤ base) : w.ownsRow b e size v n xs := by
  refine ⟨h.1, ?_⟩
  rcases h.2 with h2 | ⟨g, cap, cur, hv, hg, r⟩
  · exact .inl h2
  · exact .inr ⟨g, cap, cur, hv, by omega, r⟩
theorem sortsIn (m : Nat) : AnyZ.SortsIn Tryz.prog Tryz.sorted106_ren Fence.wide m :=
  ⟨fun blk off cap ss W hH hblk hsz => callsIn_wide.2 (AnyM.slices_Sort_string Tryz.sort122 blk off cap ss W hH hblk hsz),
   fun p cap W => callsIn_wide.2 (AnyM.slices_Sort_string_none Tryz.sort122 p cap W)⟩
theorem keysCall (mb : Option Nat) (W : World) : Calls Tryz.prog 107 #[.map mb] W fun e w' => e = .returned (.func (.func 123) #[] #[.pointer (some ⟨W.heap.size, 0, none⟩)]) ∧ w' = W.alloc (.cells #[.map mb] 72) :=
  (callsIn_wide (n := 5)).1 (AnyZ.keys_in Tryz.keys107 Fence.wide 5 trivial rfl mb W)
set_option maxHeartbeats 1000000 in
theorem sortedCall {H : Type} (b nn : Nat) (D0 : DataW H) (R : Value → Option (DataW H × List MemPlace)) (w : World) (hown : w.ownsMap Tryz.prog 9 R b nn D0) (hmax : Maps.size D0 ≤ maxLen) (hbytes : Maps.size D0 * 16 ≤ 140737488355328) :
    Calls Tryz.prog 106 #[.func (.func 123) #[] #[.pointer (some ⟨w.heap.size, 0, none⟩)]] (w.alloc (.cells #[.map (some b)] 72)) fun e w' => ∃ (v : Value) (ss : List (List UInt8)), e = .returned v ∧ ss.Perm (strKeys D0) ∧
      w'.ownsRow (w.alloc (.cells #[.map (some b)] 72)).heap.size 9 1 v ss.length ((ss.mergeSort (fun x y => decide (x ≤ y))).map encStr) ∧ (v = .slice none 0 0 ↔ ss = []) ∧ Below (w.alloc (.cells #[.map (some b)] 72)).heap.size (w.alloc (.cells #[.map (some b)] 72)) w' := by
  have hbl := hown.lt
  have hseq : SeqGives Fence.wide 2 Tryz.prog 123 #[.pointer (some ⟨w.heap.size, 0, none⟩)] encStr (fun ss => ss.Perm (strKeys D0)) (Maps.size D0) (w.alloc (.cells #[.map (some b)] 72)) :=
    AnyZ.keys_gives (ρ := Tryz.keys107_ren) { Tryz.keys107 with } Fence.wide _ trivial rfl (by omega) w.heap.size b nn D0 _ (by simp) (by simp) (by
      obtain ⟨es, clock, hb, Ft, hs, hD⟩ := hown
      exact ⟨es, clock, (Below.heap_alloc _ _ b hbl).trans hb, Ft, hs, hD⟩)
  have h := AnyZ.sorted_in Tryz.sorted106 Fence.wide 5 trivial trivial trivial trivial rfl (by omega) (sortsIn _) (enters_of Tryz.func122 (by kernel_rfl) rfl) 123 #[.pointer (some ⟨w.heap.size, 0, none⟩)] trivial (enters_of Tryz.func123 (by kernel_rfl) rfl) _ _ hmax hbytes _ hseq
  exact (callsIn_wide (n := 5)).1 h
/-- The keys of a table in memory. -/
def keyRow (l : List (ByteArray × ByteArray)) : List Value := l.map fun x => .string x.1
theorem length_keyRow (l : List (ByteArray × ByteArray)) : (keyRow l).length = l.length := by simp [keyRow]
theorem keyRow_get (l : List (ByteArray × ByteArray)) (k : Nat) (h : k < l.length) : (keyRow l)[k]? = some (.string (rk l k)) := by simp [keyRow, rk, List.getD, h]
theorem enc_keys (l : List (ByteArray × ByteArray)) : (l.map fun x => bl x.1).map encStr = keyRow l := by
  unfold keyRow
  rw [List.map_map]
  refine List.map_congr_left fun x _ => ?_
  show Value.string _ = _
  congr 1
theorem size_tab (rs : List (ByteArray × ByteArray)) : Maps.size (mapOf rs) = (tab rs).length := by
  rw [tab_map]
  show ((tab rs).map litE).length = _
  simp
/-- What slices.Sorted leaves of a map of records. -/
def KeysP (l : List (ByteArray × ByteArray)) (w : World) (e : Ending) (w' : World) : Prop :=
  ∃ A c, e = .returned (.slice A l.length c) ∧ RC w' w'.heap.size A (keyRow l) ∧ Below w.heap.size w w'
theorem sortedKeys (b nn : Nat) (rs : List (ByteArray × ByteArray)) (w : World) (hown : w.ownsMap Tryz.prog 9 (plainElem Tryz.prog 9) b nn (mapOf rs)) (hl : rs.length ≤ 8589934592) :
    Calls Tryz.prog 106 #[.func (.func 123) #[] #[.pointer (some ⟨w.heap.size, 0, none⟩)]] (w.alloc (.cells #[.map (some b)] 72)) (KeysP (tab rs) (w.alloc (.cells #[.map (some b)] 72))) := by
  have hs := tab_len rs
  have hz := size_tab rs
  refine (sortedCall b nn (mapOf rs) _ w hown (by unfold maxLen; omega) (by omega)).mono ?_
  rintro e w' ⟨v, ss, rfl, hp, ho, _, hb⟩
  have hlen : ss.length = (tab rs).length := by
    have h := hp.length_eq
    rw [h, tab_map]
    show (((tab rs).map litE).map fun p => strOf p.1).length = _
    simp
  rw [tab_keys hp, enc_keys, hlen] at ho
  obtain ⟨A, c, rfl, _, _, _⟩ := own_form ho
  exact ⟨A, c, rfl, RC.of_own ho, hb⟩
theorem zrecinfo : (Tryz.prog.info? 108).map (fun i => (i.zero, i.size, i.bytes)) = some (some (.agg #[.string ⟨#[]⟩, .string ⟨#[]⟩]), 2, 32) := by kernel_rfl
set_option maxRecDepth 20000 in
set_option maxHeartbeats 1600000 in
theorem zzSorted_any (b nn : Nat) (rs : List (ByteArray × ByteArray)) (w : World) (hown : w.ownsMap Tryz.prog 9 (plainElem Tryz.prog 9) b nn (mapOf rs)) (hl : rs.length ≤ 8589934592) (hsz : ∀ x ∈ rs, x.1.size ≤ 4000000000000 ∧ x.2.size ≤ 4000000000000) :
    Calls Tryz.prog 53 #[.map (some b)] w (MadeR 108 (tab rs).length (tab rs) w) := by
  have hbw := hown.lt
  have HK := Lib.hid (sortedKeys b nn rs w hown hl)
  have HM := Lib.hid hown
  have HAL : Hid (Below w.heap.size w (w.alloc (.cells #[.map (some b)] 72))) := Lib.hid ((Below.refl _ w).alloc (Nat.le_refl _) _)
  obtain ⟨l, hl9⟩ : ∃ l, l = tab rs := ⟨_, rfl⟩
  have HL9 := Lib.hid hl9
  obtain ⟨n, hn⟩ : ∃ n, l.length = n := ⟨_, rfl⟩
  have hn2 : n ≤ 8589934592 := by rw [← hn, hl9]; have := tab_len rs; omega
  have HN := Lib.hid hn
  have HSZ : Hid (∀ k, k < n → (rk l k).size ≤ 4000000000000 ∧ (rv l k).size ≤ 4000000000000 ∧ ∀ z, (mapOf rs).atKey (.string (bl (rk l k))) z = .lit (.string (bl (rv l k)))) := Lib.hid (fun k hk => by
    have hk2 : k < l.length := by omega
    have hmem : (rk l k, rv l k) ∈ tab rs := by
      rw [← hl9]
      have : (rk l k, rv l k) = l[k] := by simp [rk, rv, List.getD, hk2]
      rw [this]
      exact List.getElem_mem hk2
    have h1 := hsz _ (mem_tab hmem)
    exact ⟨h1.1, h1.2, fun z => tab_at hmem z⟩)
  rw [← hl9] at HK ⊢
  rw [hn]
  clear hown hl hsz hl9 hn
  go_enter Tryz.func53, Tryz.ntmps53
  go_wp2_with fail
  refine (keysCall (some b) _).mono ?_
  rintro e w1 ⟨rfl, rfl⟩
  go_wp2_with fail
  refine HK.out.mono ?_
  rintro e w2 ⟨A, c, rfl, hr, hb2⟩
  have HB2 : Hid (Below w.heap.size w w2) := Lib.hid (HAL.out.trans (hb2.mono HAL.out.size))
  have HR := Lib.hid hr
  have HM2 := Lib.hid (ownsMap_below HM.out HB2.out hbw)
  have hb2w : b < w2.heap.size := Nat.lt_of_lt_of_le hbw HB2.out.size
  have HS2 := Lib.hid HB2.out.size
  rw [HN.out]
  clear hr hb2 HK HM
  go_wp2
  go_loopw [3, 10] (fun v i wr => ∃ k : Nat, k ≤ n ∧ i = .int .i64 k ∧ Hid (wr.ownsRow w2.heap.size 108 2 v k (recsV (l.take k))) ∧ Hid (Below w2.heap.size w2 wr)) (fun _ i _ => n - (intOf i).toNat)
  case atStart => exact ⟨0, by omega, rfl, Lib.hid (World.ownsRow_nil _ _ _ _), Lib.hid (Below.refl _ _)⟩
  case round =>
    obtain ⟨k, hk, rfl, hO, hW⟩ := hrel
    obtain ⟨A', c', rfl, _, _, _⟩ := own_form hO.out
    by_cases hlt : k < n
    · obtain ⟨bb, off, rfl, hbb, hcell⟩ := (HR.out.below hW.out) (by rw [length_keyRow, HN.out]; omega)
      have hc0 := hcell k _ (keyRow_get l k (by rw [HN.out]; exact hlt))
      obtain ⟨z1, z2, z3⟩ := HSZ.out k hlt
      have HP := Lib.hid (recsV_take l k (by rw [HN.out]; exact hlt))
      obtain ⟨X, hX⟩ : ∃ X, X = rk l k := ⟨_, rfl⟩
      obtain ⟨Y, hY⟩ : ∃ Y, Y = rv l k := ⟨_, rfl⟩
      rw [← hX, ← hY] at HP z3
      rw [← hX] at hc0 z1
      have HZ3 := Lib.hid z3
      have HKEY := Lib.hid (keyOf_string_mk Tryz.underlying9 (s := X) (by unfold maxLen; omega))
      have HMW := Lib.hid (ownsMap_below HM2.out hW.out hb2w)
      clear hcell z3 hX hY z2
      go_wp2_with (at_lookup; refine wpList_lookup_own_str _ rfl _ _ 72 rfl 9 9 strKeyed Tryz.underlying72 Tryz.underlying9 (zeroStr _) b nn _ rfl HMW.out _ _ rfl HKEY.out ?_)
      intro s hat _
      obtain rfl : s = Y := bl_inj (by
        have h := hat.symm.trans (HZ3.out _)
        injection h with h
        injection h with h)
      have HWA := Lib.hid (hW.out.alloc (o := .cells #[.string X, .string s] 108) hW.out.size)
      have HSW := Lib.hid hW.out.size
      clear hat
      go_wp2_with (at_builtin; refine wpList_append_rc (o := ⟨some 21, _, _, _, _, _⟩) _ rfl (.tmp 14) (.tmp 20) _ rfl w2.heap.size 108 _ 2 32 Tryz.underlying66 zrecinfo rfl (by omega) _ k _ rfl (hO.out.alloc _) _ 1 1 _ [.string X, .string s] rfl rfl (RC.of_blk (Blk.new _ 108 [.string X, .string s])) (two_strs _ _) (by omega) (by omega) (by have := HSW.out; simp; omega) ?_)
      intro v' w5 h1 h2 h3
      have H1 : Hid (w5.ownsRow w2.heap.size 108 2 v' (k + 1) (recsV (l.take (k + 1)))) := Lib.hid (by rw [HP.out]; exact h1.out)
      have H2 := Lib.hid (HWA.out.grown h2.out (by have := HSW.out; simp; omega) (fun g hg => (hO.out.lt g hg).1))
      clear h1 h2 h3
      go_wp2
      go_roundw
      case rel => exact ⟨k + 1, by omega, by go_num, H1, H2⟩
      case measure => simp [intOf]; omega
    · obtain rfl : k = n := by omega
      have HO2 : Hid (wr.ownsRow w.heap.size 108 2 (.slice A' k c') k (recsV l)) := Lib.hid (by have h := hO.out; rw [List.take_of_length_le (by rw [HN.out]; exact Nat.le_refl _)] at h; exact own_bs h HS2.out)
      go_wp2
      go_ret
      exact ⟨_, rfl, HO2.out, HB2.out.trans (hW.out.mono HS2.out)⟩
end Go.Proofs.YtepeehjajhehfaaGreatDoor
namespace Go.Proofs.YtepeehjajhehfaaGreatDoor
open Go.RowKit Go.PlainAid
set_option linter.unusedVariables false

theorem toList_bl' (s : ByteArray) : s.toList = bl s := Lib.toList_data s
theorem srecs : (Tryz.prog.info? 60).map (fun i => (i.zero, i.size, i.bytes)) = some (some (.agg #[.string ⟨#[]⟩, .string ⟨#[]⟩]), 2, 32) := by kernel_rfl
set_option maxRecDepth 20000 in
set_option maxHeartbeats 1600000 in
/-- laws.records: a copy. -/
theorem lawRecs (A : Option Addr) (n c B : Nat) (l : List (ByteArray × ByteArray)) (w : World) (hn : l.length = n) (hr : RC w B A (recsV l)) (hB : B ≤ w.heap.size) (hl : n ≤ 8589934592) :
    Calls Tryz.prog 13 #[.slice A n c] w (MadeR 60 n l w) := by
  have HR := Lib.hid hr
  have HN := Lib.hid hn
  clear hr hn
  go_enter Tryz.func13, Tryz.ntmps13
  go_wp2
  go_loopw [3, 8] (fun v i wr => ∃ k : Nat, k ≤ n ∧ i = .int .i64 k ∧ Hid (wr.ownsRow w.heap.size 60 2 v k (recsV (l.take k))) ∧ Hid (Below w.heap.size w wr)) (fun _ i _ => n - (intOf i).toNat)
  case atStart => exact ⟨0, by omega, rfl, Lib.hid (World.ownsRow_nil _ _ _ _), Lib.hid (Below.refl _ _)⟩
  case round =>
    obtain ⟨k, hk, rfl, hO, hW⟩ := hrel
    obtain ⟨A', c', rfl, _, _, _⟩ := own_form hO.out
    by_cases hlt : k < n
    · obtain ⟨b, off, rfl, _, hc1, hc2⟩ := (HR.out.below (hW.out.mono hB)).rec_ (k := k) (by rw [HN.out]; exact hlt)
      have HB2 := Lib.hid (((hW.out.alloc (o := .cells #[.string (rk l k), .string (rv l k)] 83) hW.out.size).alloc (o := .cells #[.string (rk l k), .string (rv l k)] 60) (by have := hW.out.size; simp; omega)))
      have HP := Lib.hid (recsV_take l k (by rw [HN.out]; exact hlt))
      go_wp2_with (at_builtin; refine wpList_append_rc (o := ⟨some 19, _, _, _, _, _⟩) _ rfl (.tmp 12) (.tmp 18) _ rfl w.heap.size 60 _ 2 32 Tryz.underlying30 srecs rfl (by omega) _ k _ rfl ((hO.out.alloc _).alloc _) _ 1 1 _ _ rfl rfl (rc_new2 _ _ _ _) (two_strs _ _) (by omega) (by omega) (by have := hW.out.size; simp; omega) ?_)
      intro v' w1 h1 h2 h3
      have H1 : Hid (w1.ownsRow w.heap.size 60 2 v' (k + 1) (recsV (l.take (k + 1)))) := Lib.hid (by rw [HP.out]; exact h1.out)
      have H2 := Lib.hid (HB2.out.grown h2.out (by have := hW.out.size; simp; omega) (fun g hg => (hO.out.lt g hg).1))
      clear h1 h2 h3
      go_wp2
      go_roundw
      case rel => exact ⟨k + 1, by omega, by go_num, H1, H2⟩
      case measure => simp [intOf]; omega
    · obtain rfl : k = n := by omega
      have HO2 : Hid (wr.ownsRow w.heap.size 60 2 (.slice A' k c') k (recsV l)) := Lib.hid (by have h := hO.out; rw [List.take_of_length_le (by rw [HN.out]; exact Nat.le_refl _)] at h; exact h)
      go_wp2
      go_ret
      exact ⟨_, rfl, HO2.out, hW.out⟩

/-- What spec.Find tells of the first k records. -/
def FindAt (l : List (ByteArray × ByteArray)) (K : ByteArray) (k : Nat) (V : ByteArray) (b : Bool) : Prop :=
  ∀ i, i < k → rk l i = K → (∀ j, j < l.length → rk l j = K → j = i) → b = true ∧ V = rv l i
theorem FindAt.yes {l : List (ByteArray × ByteArray)} {K : ByteArray} {k : Nat} {V : ByteArray} {b : Bool} (hk : k < l.length) (h : rk l k = K) : FindAt l K (k + 1) (rv l k) true := fun i hi hx hu => by
  obtain rfl := hu k hk h
  exact ⟨rfl, rfl⟩
theorem FindAt.no {l : List (ByteArray × ByteArray)} {K : ByteArray} {k : Nat} {V : ByteArray} {b : Bool} (H : FindAt l K k V b) (h : rk l k ≠ K) : FindAt l K (k + 1) V b := fun i hi hx hu => by
  refine H i ?_ hx hu
  rcases Nat.lt_or_ge i k with h1 | h1
  · exact h1
  · exact absurd (by rw [show k = i by omega]; exact hx) h
def FindP (l : List (ByteArray × ByteArray)) (K : ByteArray) (w : World) (e : Ending) (w' : World) : Prop :=
  ∃ V b, e = .returned (.tuple #[.string V, .bool b]) ∧ FindAt l K l.length V b ∧ Below w.heap.size w w'
set_option maxRecDepth 20000 in
set_option maxHeartbeats 1600000 in
theorem specFind (A : Option Addr) (n c B : Nat) (l : List (ByteArray × ByteArray)) (K : ByteArray) (w : World) (hn : l.length = n) (hr : RC w B A (recsV l)) (hB : B ≤ w.heap.size) (hl : n ≤ 8589934592) :
    Calls Tryz.prog 36 #[.slice A n c, .string K] w (FindP l K w) := by
  have HR := Lib.hid hr
  have HN := Lib.hid hn
  clear hr hn
  go_enter Tryz.func36, Tryz.ntmps36
  go_wp2
  go_loopw [6, 7, 12] (fun v f i wr => ∃ (k : Nat) (V : ByteArray) (b : Bool), k ≤ n ∧ v = .string V ∧ f = .bool b ∧ i = .int .i64 k ∧ Hid (FindAt l K k V b) ∧ Hid (Below w.heap.size w wr)) (fun _ _ i _ => n - (intOf i).toNat)
  case atStart => exact ⟨0, ⟨#[]⟩, false, by omega, rfl, rfl, rfl, Lib.hid (fun i hi => by omega), Lib.hid (Below.refl _ _)⟩
  case round =>
    obtain ⟨k, V, b0, hk, rfl, rfl, rfl, hF, hW⟩ := hrel
    by_cases hlt : k < n
    · obtain ⟨b, off, rfl, _, hc1, hc2⟩ := (HR.out.below (hW.out.mono hB)).rec_ (k := k) (by rw [HN.out]; exact hlt)
      have HLT : Hid (k < l.length) := Lib.hid (by rw [HN.out]; exact hlt)
      have HW2 := Lib.hid (hW.out.alloc (o := .cells #[.string (rk l k), .string (rv l k)] 60) hW.out.size)
      by_cases hq : rk l k = K
      · have e1 : ((rk l k).toList == K.toList) = true := by rw [hq]; simp
        have HF2 : Hid (FindAt l K (k + 1) (rv l k) true) := Lib.hid (FindAt.yes (V := V) (b := b0) HLT.out hq)
        clear hq
        go_wp2
        go_roundw
        case rel => exact ⟨k + 1, _, _, by omega, rfl, rfl, by go_num, HF2, HW2⟩
        case measure => simp [intOf]; omega
      · have e1 : ((rk l k).toList == K.toList) = false := by
          rw [toList_bl', toList_bl', beq_eq_false_iff_ne]
          exact fun h => hq (bl_inj h)
        have HF2 : Hid (FindAt l K (k + 1) V b0) := Lib.hid (hF.out.no hq)
        clear hq
        go_wp2
        go_roundw
        case rel => exact ⟨k + 1, _, _, by omega, rfl, rfl, by go_num, HF2, HW2⟩
        case measure => simp [intOf]; omega
    · obtain rfl : k = n := by omega
      have HF2 : Hid (FindAt l K l.length V b0) := Lib.hid (by rw [HN.out]; exact hF.out)
      go_wp2
      go_ret2
      exact ⟨V, b0, rfl, HF2.out, hW.out⟩
theorem irecs : (Tryz.prog.info? 83).map (fun i => (i.zero, i.size, i.bytes)) = some (some (.agg #[.string ⟨#[]⟩, .string ⟨#[]⟩]), 2, 32) := by kernel_rfl
set_option maxRecDepth 20000 in
set_option maxHeartbeats 1600000 in
/-- impl.records: a copy. -/
theorem implRecs (A : Option Addr) (n c B : Nat) (l : List (ByteArray × ByteArray)) (w : World) (hn : l.length = n) (hr : RC w B A (recsV l)) (hB : B ≤ w.heap.size) (hl : n ≤ 8589934592) :
    Calls Tryz.prog 33 #[.slice A n c] w (MadeR 83 n l w) := by
  have HR := Lib.hid hr
  have HN := Lib.hid hn
  clear hr hn
  go_enter Tryz.func33, Tryz.ntmps33
  go_wp2
  go_loopw [3, 8] (fun v i wr => ∃ k : Nat, k ≤ n ∧ i = .int .i64 k ∧ Hid (wr.ownsRow w.heap.size 83 2 v k (recsV (l.take k))) ∧ Hid (Below w.heap.size w wr)) (fun _ i _ => n - (intOf i).toNat)
  case atStart => exact ⟨0, by omega, rfl, Lib.hid (World.ownsRow_nil _ _ _ _), Lib.hid (Below.refl _ _)⟩
  case round =>
    obtain ⟨k, hk, rfl, hO, hW⟩ := hrel
    obtain ⟨A', c', rfl, _, _, _⟩ := own_form hO.out
    by_cases hlt : k < n
    · obtain ⟨b, off, rfl, _, hc1, hc2⟩ := (HR.out.below (hW.out.mono hB)).rec_ (k := k) (by rw [HN.out]; exact hlt)
      have HB2 := Lib.hid (((hW.out.alloc (o := .cells #[.string (rk l k), .string (rv l k)] 108) hW.out.size).alloc (o := .cells #[.string (rk l k), .string (rv l k)] 83) (by have := hW.out.size; simp; omega)))
      have HP := Lib.hid (recsV_take l k (by rw [HN.out]; exact hlt))
      go_wp2_with (at_builtin; refine wpList_append_rc (o := ⟨some 15, _, _, _, _, _⟩) _ rfl (.tmp 12) (.tmp 14) _ rfl w.heap.size 83 _ 2 32 Tryz.underlying24 irecs rfl (by omega) _ k _ rfl ((hO.out.alloc _).alloc _) _ 1 1 _ _ rfl rfl (rc_new2 _ _ _ _) (two_strs _ _) (by omega) (by omega) (by have := hW.out.size; simp; omega) ?_)
      intro v' w1 h1 h2 h3
      have H1 : Hid (w1.ownsRow w.heap.size 83 2 v' (k + 1) (recsV (l.take (k + 1)))) := Lib.hid (by rw [HP.out]; exact h1.out)
      have H2 := Lib.hid (HB2.out.grown h2.out (by have := hW.out.size; simp; omega) (fun g hg => (hO.out.lt g hg).1))
      clear h1 h2 h3
      go_wp2
      go_roundw
      case rel => exact ⟨k + 1, by omega, by go_num, H1, H2⟩
      case measure => simp [intOf]; omega
    · obtain rfl : k = n := by omega
      have HO2 : Hid (wr.ownsRow w.heap.size 83 2 (.slice A' k c') k (recsV l)) := Lib.hid (by have h := hO.out; rw [List.take_of_length_le (by rw [HN.out]; exact Nat.le_refl _)] at h; exact h)
      go_wp2
      go_ret
      exact ⟨_, rfl, HO2.out, hW.out⟩
/-- The last records of their keys stand in the table, once. -/
def HasOk (l l2 : List (ByteArray × ByteArray)) : Prop :=
  ∀ k, k < l2.length → (∀ j, k < j → j < l2.length → rk l2 j ≠ rk l2 k) → ∃ i, i < l.length ∧ rk l i = rk l2 k ∧ rv l i = rv l2 k ∧ ∀ j, j < l.length → rk l j = rk l2 k → j = i
/-- No record of this key among the next j. -/
def LastTo (l2 : List (ByteArray × ByteArray)) (k j : Nat) (q : Bool) : Prop := q = true ↔ ∀ i, k < i → i < k + 1 + j → rk l2 i ≠ rk l2 k
theorem LastTo.step {l2 : List (ByteArray × ByteArray)} {k j : Nat} {q : Bool} (h : LastTo l2 k j q) (hne : rk l2 (k + 1 + j) ≠ rk l2 k) : LastTo l2 k (j + 1) q := by
  unfold LastTo at *
  rw [h]
  constructor
  · intro H i h1 h2
    rcases Nat.lt_or_ge i (k + 1 + j) with h3 | h3
    · exact H i h1 h3
    · rw [show i = k + 1 + j by omega]; exact hne
  · intro H i h1 h2
    exact H i h1 (by omega)
theorem LastTo.stop {l2 : List (ByteArray × ByteArray)} {k j : Nat} (he : rk l2 (k + 1 + j) = rk l2 k) : LastTo l2 k (j + 1) false := by
  unfold LastTo
  constructor
  · intro h; cases h
  · intro H; exact absurd he (H (k + 1 + j) (by omega) (by omega))
set_option maxRecDepth 20000 in
set_option maxHeartbeats 3200000 in
theorem specHas (A A' : Option Addr) (n c m c' B : Nat) (l l2 : List (ByteArray × ByteArray)) (w : World) (hn : l.length = n) (hm : l2.length = m) (hr : RC w B A (recsV l)) (hr2 : RC w B A' (recsV l2)) (hB : B ≤ w.heap.size) (hl : n ≤ 8589934592) (hl2 : m ≤ 8589934592) (hmc : m ≤ c') (hH : HasOk l l2) :
    Calls Tryz.prog 15 #[.slice A n c, .slice A' m c'] w fun e w' => e = .returned (.bool true) ∧ Below w.heap.size w w' := by
  have HR := Lib.hid hr
  have HR2 := Lib.hid hr2
  have HN := Lib.hid hn
  have HM := Lib.hid hm
  have HH := Lib.hid hH
  clear hr hr2 hn hm hH
  go_enter Tryz.func15, Tryz.ntmps15
  go_wp2
  go_loopw [14] (fun i wr => ∃ k : Nat, k ≤ m ∧ i = .int .i64 k ∧ Hid (Below w.heap.size w wr)) (fun i _ => m - (intOf i).toNat)
  case atStart => exact ⟨0, by omega, rfl, Lib.hid (Below.refl _ _)⟩
  case round =>
    obtain ⟨k, hk, rfl, hW⟩ := hrel
    by_cases hlt : k < m
    · obtain ⟨b, off, rfl, _, hc1, hc2⟩ := (HR2.out.below (hW.out.mono hB)).rec_ (k := k) (by rw [HM.out]; exact hlt)
      have HRR2 := Lib.hid (HR2.out.below (hW.out.mono hB))
      obtain ⟨X, hX⟩ : ∃ X, X = rk l2 k := ⟨_, rfl⟩
      obtain ⟨Y, hY⟩ : ∃ Y, Y = rv l2 k := ⟨_, rfl⟩
      have HX := Lib.hid hX
      have HY := Lib.hid hY
      rw [← hX] at hc1
      rw [← hY] at hc2
      have HBK := Lib.hid (Blk.new wr 60 [.string X, .string Y])
      have HW2 := Lib.hid (hW.out.alloc (o := .cells #[.string X, .string Y] 60) hW.out.size)
      have HKM : Hid (k < l2.length) := Lib.hid (by rw [HM.out]; exact hlt)
      obtain ⟨w1, rfl⟩ : ∃ w1, w1 = wr := ⟨_, rfl⟩
      have u1 : IntKind.i64.wrap ((k : Int) + 1) = ((k + 1 : Nat) : Int) := by rw [IntWalk.i64_in _ (by omega)]; omega
      have u2 : (0 : Int) ≤ ((k + 1 : Nat) : Int) := by omega
      have u3 : ((k + 1 : Nat) : Int) ≤ (m : Int) := by omega
      have u4 : ((k + 1 : Nat) : Int) ≤ (c' : Int) := by omega
      have u5 : ((k + 1 : Nat) : Int).toNat = k + 1 := by omega
      clear hX hY
      by_cases hcc : c' = k + 1
      · subst hcc
        have hHk : Hid (∃ i, i < l.length ∧ rk l i = X ∧ rv l i = Y ∧ ∀ j, j < l.length → rk l j = X → j = i) := Lib.hid (by
          rw [HX.out, HY.out]
          exact HH.out k HKM.out (fun i h1 h2 => by rw [HM.out] at h2; omega))
        go_wp2
        go_loopw [7, 24] (fun f i wi => f = .bool true ∧ i = .int .i64 0 ∧ Hid (Blk wi w1.heap.size 60 [.string X, .string Y]) ∧ Hid (Below w.heap.size w wi)) (fun _ _ _ => 0)
        case atStart => exact ⟨rfl, rfl, HBK, HW2⟩
        case round =>
          obtain ⟨rfl, rfl, hBi, hWi⟩ := hrel
          have p0 : wr.cell? ⟨w1.heap.size, 0, none⟩ = some (.string X) := by rw [hBi.out.cell]; rfl
          have p1 : wr.cell? ⟨w1.heap.size, 1, none⟩ = some (.string Y) := by rw [hBi.out.cell]; rfl
          have hlt0 := hBi.out.lt
          have HF := Lib.hid (specFind A n c B l X wr HN.out (HR.out.below (hWi.out.mono hB)) (by have := hWi.out.size; omega) hl)
          go_wp2_with fail
          refine HF.out.mono ?_
          rintro e w4 ⟨V, f, rfl, hF, hb4⟩
          have HW4 := Lib.hid (hWi.out.trans (hb4.mono hWi.out.size))
          have q0 : w4.cell? ⟨w1.heap.size, 0, none⟩ = some (.string X) := (hb4.cell (p := ⟨w1.heap.size, 0, none⟩) hlt0).trans p0
          have q1 : w4.cell? ⟨w1.heap.size, 1, none⟩ = some (.string Y) := (hb4.cell (p := ⟨w1.heap.size, 1, none⟩) hlt0).trans p1
          obtain ⟨rfl, rfl⟩ : f = true ∧ V = Y := by
            obtain ⟨i, h1, h2, h3, h4⟩ := hHk.out
            obtain ⟨g1, g2⟩ := hF i h1 h2 h4
            exact ⟨g1, by rw [g2, h3]⟩
          clear hF hb4 HF p0 p1
          have e1 : (V.toList == V.toList) = true := by simp
          go_wp2
          go_roundw
          case rel => exact ⟨k + 1, by omega, by go_num, HW4⟩
          case measure => simp [intOf]; omega
      · go_wp2
        obtain ⟨d, hd⟩ : ∃ d, m - (k + 1) = d := ⟨_, rfl⟩
        rw [hd]
        have hd2 : d ≤ 8589934592 := by omega
        go_loopw [7, 24] (fun f i wi => ∃ (j : Nat) (q : Bool), j ≤ d ∧ f = .bool q ∧ i = .int .i64 j ∧ Hid (LastTo l2 k j q) ∧ Hid (Blk wi w1.heap.size 60 [.string X, .string Y]) ∧ Hid (Below w.heap.size w wi)) (fun _ i _ => d - (intOf i).toNat)
        case atStart => exact ⟨0, true, by omega, rfl, rfl, Lib.hid ⟨fun _ i h1 h2 => by omega, fun _ => rfl⟩, HBK, HW2⟩
        case round =>
          obtain ⟨j, q, hj, rfl, rfl, hL, hBi, hWi⟩ := hrel
          have p0 : wr.cell? ⟨w1.heap.size, 0, none⟩ = some (.string X) := by rw [hBi.out.cell]; rfl
          have p1 : wr.cell? ⟨w1.heap.size, 1, none⟩ = some (.string Y) := by rw [hBi.out.cell]; rfl
          have hlt0 := hBi.out.lt
          by_cases hjd : j < d
          · first
              | (obtain ⟨b2, off2, hA2, _, hd1, hd2'⟩ := (HR2.out.below (hWi.out.mono hB)).rec_ (k := k + 1 + j) (by rw [HM.out]; omega)
                 obtain ⟨rfl, rfl⟩ : b = b2 ∧ off = off2 := by
                   injection hA2 with hA2
                   injection hA2 with h1 h2
                   exact ⟨h1, h2⟩
                 rw [show off + (k + 1 + j) * 2 = off + (k + 1) * 2 + j * 2 by omega] at hd1 hd2'
                 obtain ⟨X2, hX2⟩ : ∃ X2, X2 = rk l2 (k + 1 + j) := ⟨_, rfl⟩
                 obtain ⟨Y2, hY2⟩ : ∃ Y2, Y2 = rv l2 (k + 1 + j) := ⟨_, rfl⟩
                 have HX2 := Lib.hid hX2
                 rw [← hX2] at hd1
                 rw [← hY2] at hd2'
                 have HW3 := Lib.hid (hWi.out.alloc (o := .cells #[.string X2, .string Y2] 60) hWi.out.size)
                 have HB3 := Lib.hid (hBi.out.alloc (.cells #[.string X2, .string Y2] 60))
                 clear hX2 hY2 hA2
                 by_cases he : X2 = X
                 · have e1 : (X2.toList == X.toList) = true := by rw [he]; simp
                   have HL3 : Hid (LastTo l2 k (j + 1) false) := Lib.hid (LastTo.stop (by rw [← HX2.out, ← HX.out, he]))
                   clear he
                   cases q with
                   | true =>
                     go_wp2
                     go_roundw
                     case rel => exact ⟨j + 1, false, by omega, rfl, by go_num, HL3, HB3, HW3⟩
                     case measure => simp [intOf]; omega
                   | false =>
                     go_wp2
                     go_roundw
                     case rel => exact ⟨j + 1, false, by omega, rfl, by go_num, HL3, HB3, HW3⟩
                     case measure => simp [intOf]; omega
                 · have e1 : (X2.toList == X.toList) = false := by
                     rw [toList_bl', toList_bl', beq_eq_false_iff_ne]
                     exact fun h => he (bl_inj h)
                   have HL3 : Hid (LastTo l2 k (j + 1) q) := Lib.hid (hL.out.step (by rw [← HX2.out, ← HX.out]; exact he))
                   clear he
                   cases q with
                   | true =>
                     go_wp2
                     go_roundw
                     case rel => exact ⟨j + 1, true, by omega, rfl, by go_num, HL3, HB3, HW3⟩
                     case measure => simp [intOf]; omega
                   | false =>
                     go_wp2
                     go_roundw
                     case rel => exact ⟨j + 1, false, by omega, rfl, by go_num, HL3, HB3, HW3⟩
                     case measure => simp [intOf]; omega)
          · obtain rfl : j = d := by omega
            have HF := Lib.hid (specFind A n c B l X wr HN.out (HR.out.below (hWi.out.mono hB)) (by have := hWi.out.size; omega) hl)
            have hHk : Hid (q = true → ∃ i, i < l.length ∧ rk l i = X ∧ rv l i = Y ∧ ∀ j, j < l.length → rk l j = X → j = i) := Lib.hid (fun hq => by
              rw [HX.out, HY.out]
              exact HH.out k HKM.out (fun i h1 h2 => hL.out.1 hq i h1 (by rw [HM.out] at h2; omega)))
            go_wp2_with fail
            refine HF.out.mono ?_
            rintro e w4 ⟨V, f, rfl, hF, hb4⟩
            have HW4 := Lib.hid (hWi.out.trans (hb4.mono hWi.out.size))
            have q0 : w4.cell? ⟨w1.heap.size, 0, none⟩ = some (.string X) := (hb4.cell (p := ⟨w1.heap.size, 0, none⟩) hlt0).trans p0
            have q1 : w4.cell? ⟨w1.heap.size, 1, none⟩ = some (.string Y) := (hb4.cell (p := ⟨w1.heap.size, 1, none⟩) hlt0).trans p1
            have hfin : q = true → f = true ∧ V = Y := fun hq => by
              obtain ⟨i, h1, h2, h3, h4⟩ := hHk.out hq
              obtain ⟨g1, g2⟩ := hF i h1 h2 h4
              exact ⟨g1, by rw [g2, h3]⟩
            clear hF hb4 HF p0 p1
            cases q with
            | true =>
              obtain ⟨rfl, rfl⟩ := hfin rfl
              have e1 : (V.toList == V.toList) = true := by simp
              go_wp2
              go_roundw
              case rel => exact ⟨k + 1, by omega, by go_num, HW4⟩
              case measure => simp [intOf]; omega
            | false =>
              clear hfin
              go_wp2
              go_roundw
              case rel => exact ⟨k + 1, by omega, by go_num, HW4⟩
              case measure => simp [intOf]; omega
    · obtain rfl : k = m := by omega
      go_wp2
      go_ret
      exact ⟨rfl, hW.out⟩
end Go.Proofs.YtepeehjajhehfaaGreatDoor
