/- slices.Sorted(maps.Keys(m)) at this dump; zzSorted. -/
import Derived.Test.YtlchagphjmfooaaDoorIter
import Derived.Test.YtlchagphjmfooaaDoorTab
import Derived.Test.YtlchagphjmfooaaDoorMap2
namespace Go.Proofs.YtlchagphjmfooaaDoor
open Go.RowKit Go.PlainAid Go.Maps Go.Sort Go.Shelf Go.ChangeMaps Go.MapKept Go.WideMaps
set_option linter.unusedVariables false

theorem sortsIn (m : Nat) : AnyZ.SortsIn Tryd.prog Tryd.sorted92_ren Fence.wide m :=
  ⟨fun blk off cap ss W hH hblk hsz => callsIn_wide.2 (AnyM.slices_Sort_string Tryd.sort110 blk off cap ss W hH hblk hsz),
   fun p cap W => callsIn_wide.2 (AnyM.slices_Sort_string_none Tryd.sort110 p cap W)⟩
theorem keysCall (mb : Option Nat) (W : World) : Calls Tryd.prog 93 #[.map mb] W fun e w' => e = .returned (.func (.func 111) #[] #[.pointer (some ⟨W.heap.size, 0, none⟩)]) ∧ w' = W.alloc (.cells #[.map mb] 115) :=
  (callsIn_wide (n := 5)).1 (AnyZ.keys_in Tryd.keys93 Fence.wide 5 trivial rfl mb W)
set_option maxHeartbeats 1000000 in
theorem sortedCall {H : Type} (b nn : Nat) (D0 : DataW H) (R : Value → Option (DataW H × List MemPlace)) (w : World) (hown : w.ownsMap Tryd.prog 9 R b nn D0) (hmax : Maps.size D0 ≤ maxLen) (hbytes : Maps.size D0 * 16 ≤ 140737488355328) :
    Calls Tryd.prog 92 #[.func (.func 111) #[] #[.pointer (some ⟨w.heap.size, 0, none⟩)]] (w.alloc (.cells #[.map (some b)] 115)) fun e w' => ∃ (v : Value) (ss : List (List UInt8)), e = .returned v ∧ ss.Perm (strKeys D0) ∧
      w'.ownsRow (w.alloc (.cells #[.map (some b)] 115)).heap.size 9 1 v ss.length ((ss.mergeSort (fun x y => decide (x ≤ y))).map encStr) ∧ (v = .slice none 0 0 ↔ ss = []) ∧ Below (w.alloc (.cells #[.map (some b)] 115)).heap.size (w.alloc (.cells #[.map (some b)] 115)) w' := by
  have hbl := hown.lt
  have hseq : SeqGives Fence.wide 2 Tryd.prog 111 #[.pointer (some ⟨w.heap.size, 0, none⟩)] encStr (fun ss => ss.Perm (strKeys D0)) (Maps.size D0) (w.alloc (.cells #[.map (some b)] 115)) :=
    AnyZ.keys_gives (ρ := Tryd.keys93_ren) { Tryd.keys93 with } Fence.wide _ trivial rfl (by omega) w.heap.size b nn D0 _ (by simp) (by simp) (by
      obtain ⟨es, clock, hb, Ft, hs, hD⟩ := hown
      exact ⟨es, clock, (Below.heap_alloc _ _ b hbl).trans hb, Ft, hs, hD⟩)
  have h := AnyZ.sorted_in Tryd.sorted92 Fence.wide 5 trivial trivial trivial trivial rfl (by omega) (sortsIn _) (enters_of Tryd.func110 (by kernel_rfl) rfl) 111 #[.pointer (some ⟨w.heap.size, 0, none⟩)] trivial (enters_of Tryd.func111 (by kernel_rfl) rfl) _ _ hmax hbytes _ hseq
  exact (callsIn_wide (n := 5)).1 h
/-- The keys of a table in memory. -/
def keyRow (l : List (ByteArray × ByteArray)) : List Value := l.map fun x => .string x.1
theorem length_keyRow (l : List (ByteArray × ByteArray)) : (keyRow l).length = l.length := by simp [keyRow]
theorem keyRow_get (l : List (ByteArray × ByteArray)) (k : Nat) (h : k < l.length) : (keyRow l)[k]? = some (.string (rk l k)) := by simp [keyRow, rk, List.getD, h]
theorem enc_keys (l : List (ByteArray × ByteArray)) : (l.map fun x => bl x.1).map encStr = keyRow l := by
  unfold keyRow
  rw [List.map_map]
  refine List.map_congr_left fun x _ => ?_
  show Value.string _ = _
  congr 1
theorem size_tab (rs : List (ByteArray × ByteArray)) : Maps.size (mapOf rs) = (tab rs).length := by
  rw [tab_map]
  show ((tab rs).map litE).length = _
  simp
/-- What slices.Sorted leaves of a map of records. -/
def KeysP (l : List (ByteArray × ByteArray)) (w : World) (e : Ending) (w' : World) : Prop :=
  ∃ A c, e = .returned (.slice A l.length c) ∧ RC w' w'.heap.size A (keyRow l) ∧ Below w.heap.size w w'
theorem sortedKeys (b nn : Nat) (rs : List (ByteArray × ByteArray)) (w : World) (hown : w.ownsMap Tryd.prog 9 (plainElem Tryd.prog 9) b nn (mapOf rs)) (hl : rs.length ≤ 1048001) :
    Calls Tryd.prog 92 #[.func (.func 111) #[] #[.pointer (some ⟨w.heap.size, 0, none⟩)]] (w.alloc (.cells #[.map (some b)] 115)) (KeysP (tab rs) (w.alloc (.cells #[.map (some b)] 115))) := by
  have hs := tab_len rs
  have hz := size_tab rs
  refine (sortedCall b nn (mapOf rs) _ w hown (by unfold maxLen; omega) (by omega)).mono ?_
  rintro e w' ⟨v, ss, rfl, hp, ho, _, hb⟩
  have hlen : ss.length = (tab rs).length := by
    have h := hp.length_eq
    rw [h, tab_map]
    show (((tab rs).map litE).map fun p => strOf p.1).length = _
    simp
  rw [tab_keys hp, enc_keys, hlen] at ho
  obtain ⟨A, c, rfl, _, _, _⟩ := own_form ho
  exact ⟨A, c, rfl, RC.of_own ho, hb⟩
theorem zrecinfo : (Tryd.prog.info? 88).map (fun i => (i.zero, i.size, i.bytes)) = some (some (.agg #[.string ⟨#[]⟩, .string ⟨#[]⟩]), 2, 32) := by kernel_rfl
set_option maxRecDepth 20000 in
set_option maxHeartbeats 1600000 in
theorem zzSorted_any (b nn : Nat) (rs : List (ByteArray × ByteArray)) (w : World) (hown : w.ownsMap Tryd.prog 9 (plainElem Tryd.prog 9) b nn (mapOf rs)) (hl : rs.length ≤ 1048001) (hsz : ∀ x ∈ rs, x.1.size ≤ 4000000000000 ∧ x.2.size ≤ 4000000000000) :
    Calls Tryd.prog 71 #[.map (some b)] w (MadeR 88 (tab rs).length (tab rs) w) := by
  have hbw := hown.lt
  have HK := Lib.hid (sortedKeys b nn rs w hown hl)
  have HM := Lib.hid hown
  have HAL : Hid (Below w.heap.size w (w.alloc (.cells #[.map (some b)] 115))) := Lib.hid ((Below.refl _ w).alloc (Nat.le_refl _) _)
  obtain ⟨l, hl9⟩ : ∃ l, l = tab rs := ⟨_, rfl⟩
  have HL9 := Lib.hid hl9
  obtain ⟨n, hn⟩ : ∃ n, l.length = n := ⟨_, rfl⟩
  have hn2 : n ≤ 1048001 := by rw [← hn, hl9]; have := tab_len rs; omega
  have HN := Lib.hid hn
  have HSZ : Hid (∀ k, k < n → (rk l k).size ≤ 4000000000000 ∧ (rv l k).size ≤ 4000000000000 ∧ ∀ z, (mapOf rs).atKey (.string (bl (rk l k))) z = .lit (.string (bl (rv l k)))) := Lib.hid (fun k hk => by
    have hk2 : k < l.length := by omega
    have hmem : (rk l k, rv l k) ∈ tab rs := by
      rw [← hl9]
      have : (rk l k, rv l k) = l[k] := by simp [rk, rv, List.getD, hk2]
      rw [this]
      exact List.getElem_mem hk2
    have h1 := hsz _ (mem_tab hmem)
    exact ⟨h1.1, h1.2, fun z => tab_at hmem z⟩)
  rw [← hl9] at HK ⊢
  rw [hn]
  clear hown hl hsz hl9 hn
  go_enter Tryd.func71, Tryd.ntmps71
  go_wp2_with fail
  refine (keysCall (some b) _).mono ?_
  rintro e w1 ⟨rfl, rfl⟩
  go_wp2_with fail
  refine HK.out.mono ?_
  rintro e w2 ⟨A, c, rfl, hr, hb2⟩
  have HB2 : Hid (Below w.heap.size w w2) := Lib.hid (HAL.out.trans (hb2.mono HAL.out.size))
  have HR := Lib.hid hr
  have HM2 := Lib.hid (ownsMap_below HM.out HB2.out hbw)
  have hb2w : b < w2.heap.size := Nat.lt_of_lt_of_le hbw HB2.out.size
  have HS2 := Lib.hid HB2.out.size
  rw [HN.out]
  clear hr hb2 HK HM
  go_wp2
  go_loopw [3, 10] (fun v i wr => ∃ k : Nat, k ≤ n ∧ i = .int .i64 k ∧ Hid (wr.ownsRow w2.heap.size 88 2 v k (recsV (l.take k))) ∧ Hid (Below w2.heap.size w2 wr)) (fun _ i _ => n - (intOf i).toNat)
  case atStart => exact ⟨0, by omega, rfl, Lib.hid (World.ownsRow_nil _ _ _ _), Lib.hid (Below.refl _ _)⟩
  case round =>
    obtain ⟨k, hk, rfl, hO, hW⟩ := hrel
    obtain ⟨A', c', rfl, _, _, _⟩ := own_form hO.out
    by_cases hlt : k < n
    · obtain ⟨bb, off, rfl, hbb, hcell⟩ := (HR.out.below hW.out) (by rw [length_keyRow, HN.out]; omega)
      have hc0 := hcell k _ (keyRow_get l k (by rw [HN.out]; exact hlt))
      obtain ⟨z1, z2, z3⟩ := HSZ.out k hlt
      have HP := Lib.hid (recsV_take l k (by rw [HN.out]; exact hlt))
      obtain ⟨X, hX⟩ : ∃ X, X = rk l k := ⟨_, rfl⟩
      obtain ⟨Y, hY⟩ : ∃ Y, Y = rv l k := ⟨_, rfl⟩
      rw [← hX, ← hY] at HP z3
      rw [← hX] at hc0 z1
      have HZ3 := Lib.hid z3
      have HKEY := Lib.hid (keyOf_string_mk Tryd.underlying9 (s := X) (by unfold maxLen; omega))
      have HMW := Lib.hid (ownsMap_below HM2.out hW.out hb2w)
      clear hcell z3 hX hY z2
      go_wp2_with (at_lookup; refine wpList_lookup_own_str _ rfl _ _ 115 rfl 9 9 strKeyed Tryd.underlying115 Tryd.underlying9 (zeroStr _) b nn _ rfl HMW.out _ _ rfl HKEY.out ?_)
      intro s hat _
      obtain rfl : s = Y := bl_inj (by
        have h := hat.symm.trans (HZ3.out _)
        injection h with h
        injection h with h)
      have HWA := Lib.hid (hW.out.alloc (o := .cells #[.string X, .string s] 88) hW.out.size)
      have HSW := Lib.hid hW.out.size
      clear hat
      go_wp2_with (at_builtin; refine wpList_append_rc (o := ⟨some 21, _, _, _, _, _⟩) _ rfl (.tmp 14) (.tmp 20) _ rfl w2.heap.size 88 _ 2 32 Tryd.underlying87 zrecinfo rfl (by omega) _ k _ rfl (hO.out.alloc _) _ 1 1 _ [.string X, .string s] rfl rfl (RC.of_blk (Blk.new _ 88 [.string X, .string s])) (two_strs _ _) (by omega) (by omega) (by have := HSW.out; simp; omega) ?_)
      intro v' w5 h1 h2 h3
      have H1 : Hid (w5.ownsRow w2.heap.size 88 2 v' (k + 1) (recsV (l.take (k + 1)))) := Lib.hid (by rw [HP.out]; exact h1.out)
      have H2 := Lib.hid (HWA.out.grown h2.out (by have := HSW.out; simp; omega) (fun g hg => (hO.out.lt g hg).1))
      clear h1 h2 h3
      go_wp2
      go_roundw
      case rel => exact ⟨k + 1, by omega, by go_num, H1, H2⟩
      case measure => simp [intOf]; omega
    · obtain rfl : k = n := by omega
      have HO2 : Hid (wr.ownsRow w.heap.size 88 2 (.slice A' k c') k (recsV l)) := Lib.hid (by have h := hO.out; rw [List.take_of_length_le (by rw [HN.out]; exact Nat.le_refl _)] at h; exact own_base h HS2.out)
      go_wp2
      go_ret
      exact ⟨_, rfl, HO2.out, HB2.out.trans (hW.out.mono HS2.out)⟩
end Go.Proofs.YtlchagphjmfooaaDoor
