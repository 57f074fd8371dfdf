/- laws.zzFits4, laws.records, spec.Find: their walks. -/
import Derived.Test.YtlchagphjmfooaaDoorRecQ
import Derived.Test.YtlchagphjmfooaaDoorWith
namespace Go.Proofs.YtlchagphjmfooaaDoor
open Go.RowKit Go.PlainAid
set_option linter.unusedVariables false

set_option maxRecDepth 20000 in
set_option maxHeartbeats 800000 in
theorem zzFits5 (k v : ByteArray) (w : World) (hk : k.size ≤ 2147483647) (hv : v.size ≤ 2147483647) :
    Calls Tryd.prog 53 #[.agg #[.string k, .string v]] w fun e w' => e = .returned (.bool true) ∧ Below w.heap.size w w' := by
  go_enter Tryd.func53, Tryd.ntmps53
  go_wp2
  go_ret
  exact ⟨rfl, (Below.refl _ _).alloc (Nat.le_refl _) _⟩
set_option maxRecDepth 20000 in
set_option maxHeartbeats 800000 in
theorem zzFits4 (A : Option Addr) (n c B : Nat) (l : List (ByteArray × ByteArray)) (w : World) (hn : l.length = n) (hr : RC w B A (recsV l)) (hB : B ≤ w.heap.size) (hl : n ≤ 1048576) (hs : ∀ k, (rk l k).size ≤ 1048576 ∧ (rv l k).size ≤ 1048576) :
    Calls Tryd.prog 33 #[.slice A n c] w fun e w' => e = .returned (.bool true) ∧ Below w.heap.size w w' := by
  have HR := Lib.hid hr
  have HN := Lib.hid hn
  have HS := Lib.hid hs
  clear hr hn hs
  go_enter Tryd.func33, Tryd.ntmps33
  go_wp2
  go_loopw [10] (fun i wr => ∃ k : Nat, k ≤ n ∧ i = .int .i64 k ∧ Hid (Below w.heap.size w wr)) (fun i _ => n - (intOf i).toNat)
  case atStart => exact ⟨0, by omega, rfl, Lib.hid (Below.refl _ _)⟩
  case round =>
    obtain ⟨k, hk, rfl, hW⟩ := hrel
    by_cases hlt : k < n
    · obtain ⟨b, off, rfl, _, hc1, hc2⟩ := (HR.out.below (hW.out.mono hB)).rec_ (k := k) (by rw [HN.out]; exact hlt)
      obtain ⟨z1, z2⟩ := HS.out k
      obtain ⟨X, hX⟩ : ∃ X, X = rk l k := ⟨_, rfl⟩
      obtain ⟨Y, hY⟩ : ∃ Y, Y = rv l k := ⟨_, rfl⟩
      rw [← hX] at hc1 z1
      rw [← hY] at hc2 z2
      have HW2 := Lib.hid (hW.out.alloc (o := .cells #[.string X, .string Y] 27) hW.out.size)
      clear hX hY
      go_wp2_with fail
      refine (zzFits5 X Y _ (by omega) (by omega)).mono ?_
      rintro e w2 ⟨rfl, hb2⟩
      have HW3 := Lib.hid (HW2.out.trans (hb2.mono HW2.out.size))
      clear hb2
      go_wp2
      go_roundw
      case rel => exact ⟨k + 1, by omega, by go_num, HW3⟩
      case measure => simp [intOf]; omega
    · obtain rfl : k = n := by omega
      go_wp2
      go_ret
      exact ⟨rfl, hW.out⟩

theorem srecs : (Tryd.prog.info? 23).map (fun i => (i.zero, i.size, i.bytes)) = some (some (.agg #[.string ⟨#[]⟩, .string ⟨#[]⟩]), 2, 32) := by kernel_rfl
set_option maxRecDepth 20000 in
set_option maxHeartbeats 1600000 in
/-- laws.records: a copy. -/
theorem lawRecs (A : Option Addr) (n c B : Nat) (l : List (ByteArray × ByteArray)) (w : World) (hn : l.length = n) (hr : RC w B A (recsV l)) (hB : B ≤ w.heap.size) (hl : n ≤ 2147483647) :
    Calls Tryd.prog 35 #[.slice A n c] w (MadeR 23 n l w) := by
  have HR := Lib.hid hr
  have HN := Lib.hid hn
  clear hr hn
  go_enter Tryd.func35, Tryd.ntmps35
  go_wp2
  go_loopw [3, 8] (fun v i wr => ∃ k : Nat, k ≤ n ∧ i = .int .i64 k ∧ Hid (wr.ownsRow w.heap.size 23 2 v k (recsV (l.take k))) ∧ Hid (Below w.heap.size w wr)) (fun _ i _ => n - (intOf i).toNat)
  case atStart => exact ⟨0, by omega, rfl, Lib.hid (World.ownsRow_nil _ _ _ _), Lib.hid (Below.refl _ _)⟩
  case round =>
    obtain ⟨k, hk, rfl, hO, hW⟩ := hrel
    obtain ⟨A', c', rfl, _, _, _⟩ := own_form hO.out
    by_cases hlt : k < n
    · obtain ⟨b, off, rfl, _, hc1, hc2⟩ := (HR.out.below (hW.out.mono hB)).rec_ (k := k) (by rw [HN.out]; exact hlt)
      have HB2 := Lib.hid (((hW.out.alloc (o := .cells #[.string (rk l k), .string (rv l k)] 27) hW.out.size).alloc (o := .cells #[.string (rk l k), .string (rv l k)] 23) (by have := hW.out.size; simp; omega)))
      have HP := Lib.hid (recsV_take l k (by rw [HN.out]; exact hlt))
      go_wp2_with (at_builtin; refine wpList_append_rc (o := ⟨some 19, _, _, _, _, _⟩) _ rfl (.tmp 12) (.tmp 18) _ rfl w.heap.size 23 _ 2 32 Tryd.underlying47 srecs rfl (by omega) _ k _ rfl ((hO.out.alloc _).alloc _) _ 1 1 _ _ rfl rfl (rc_new2 _ _ _ _) (two_strs _ _) (by omega) (by omega) (by have := hW.out.size; simp; omega) ?_)
      intro v' w1 h1 h2 h3
      have H1 : Hid (w1.ownsRow w.heap.size 23 2 v' (k + 1) (recsV (l.take (k + 1)))) := Lib.hid (by rw [HP.out]; exact h1.out)
      have H2 := Lib.hid (HB2.out.grown h2.out (by have := hW.out.size; simp; omega) (fun g hg => (hO.out.lt g hg).1))
      clear h1 h2 h3
      go_wp2
      go_roundw
      case rel => exact ⟨k + 1, by omega, by go_num, H1, H2⟩
      case measure => simp [intOf]; omega
    · obtain rfl : k = n := by omega
      have HO2 : Hid (wr.ownsRow w.heap.size 23 2 (.slice A' k c') k (recsV l)) := Lib.hid (by have h := hO.out; rw [List.take_of_length_le (by rw [HN.out]; exact Nat.le_refl _)] at h; exact h)
      go_wp2
      go_ret
      exact ⟨_, rfl, HO2.out, hW.out⟩

/-- What spec.Find tells of the first k records. -/
def FindAt (l : List (ByteArray × ByteArray)) (K : ByteArray) (k : Nat) (V : ByteArray) (b : Bool) : Prop :=
  ∀ i, i < k → rk l i = K → (∀ j, j < l.length → rk l j = K → j = i) → b = true ∧ V = rv l i
theorem FindAt.yes {l : List (ByteArray × ByteArray)} {K : ByteArray} {k : Nat} {V : ByteArray} {b : Bool} (hk : k < l.length) (h : rk l k = K) : FindAt l K (k + 1) (rv l k) true := fun i hi hx hu => by
  obtain rfl := hu k hk h
  exact ⟨rfl, rfl⟩
theorem FindAt.no {l : List (ByteArray × ByteArray)} {K : ByteArray} {k : Nat} {V : ByteArray} {b : Bool} (H : FindAt l K k V b) (h : rk l k ≠ K) : FindAt l K (k + 1) V b := fun i hi hx hu => by
  refine H i ?_ hx hu
  rcases Nat.lt_or_ge i k with h1 | h1
  · exact h1
  · exact absurd (by rw [show k = i by omega]; exact hx) h
def FindP (l : List (ByteArray × ByteArray)) (K : ByteArray) (w : World) (e : Ending) (w' : World) : Prop :=
  ∃ V b, e = .returned (.tuple #[.string V, .bool b]) ∧ FindAt l K l.length V b ∧ Below w.heap.size w w'
set_option maxRecDepth 20000 in
set_option maxHeartbeats 1600000 in
theorem specFind (A : Option Addr) (n c B : Nat) (l : List (ByteArray × ByteArray)) (K : ByteArray) (w : World) (hn : l.length = n) (hr : RC w B A (recsV l)) (hB : B ≤ w.heap.size) (hl : n ≤ 2147483647) :
    Calls Tryd.prog 54 #[.slice A n c, .string K] w (FindP l K w) := by
  have HR := Lib.hid hr
  have HN := Lib.hid hn
  clear hr hn
  go_enter Tryd.func54, Tryd.ntmps54
  go_wp2
  go_loopw [6, 7, 12] (fun v f i wr => ∃ (k : Nat) (V : ByteArray) (b : Bool), k ≤ n ∧ v = .string V ∧ f = .bool b ∧ i = .int .i64 k ∧ Hid (FindAt l K k V b) ∧ Hid (Below w.heap.size w wr)) (fun _ _ i _ => n - (intOf i).toNat)
  case atStart => exact ⟨0, ⟨#[]⟩, false, by omega, rfl, rfl, rfl, Lib.hid (fun i hi => by omega), Lib.hid (Below.refl _ _)⟩
  case round =>
    obtain ⟨k, V, b0, hk, rfl, rfl, rfl, hF, hW⟩ := hrel
    by_cases hlt : k < n
    · obtain ⟨b, off, rfl, _, hc1, hc2⟩ := (HR.out.below (hW.out.mono hB)).rec_ (k := k) (by rw [HN.out]; exact hlt)
      have HLT : Hid (k < l.length) := Lib.hid (by rw [HN.out]; exact hlt)
      have HW2 := Lib.hid (hW.out.alloc (o := .cells #[.string (rk l k), .string (rv l k)] 23) hW.out.size)
      by_cases hq : rk l k = K
      · have e1 : ((rk l k).toList == K.toList) = true := by rw [hq]; simp
        have HF2 : Hid (FindAt l K (k + 1) (rv l k) true) := Lib.hid (FindAt.yes (V := V) (b := b0) HLT.out hq)
        clear hq
        go_wp2
        go_roundw
        case rel => exact ⟨k + 1, _, _, by omega, rfl, rfl, by go_num, HF2, HW2⟩
        case measure => simp [intOf]; omega
      · have e1 : ((rk l k).toList == K.toList) = false := by
          rw [toList_bl, toList_bl, beq_eq_false_iff_ne]
          exact fun h => hq (bl_inj h)
        have HF2 : Hid (FindAt l K (k + 1) V b0) := Lib.hid (hF.out.no hq)
        clear hq
        go_wp2
        go_roundw
        case rel => exact ⟨k + 1, _, _, by omega, rfl, rfl, by go_num, HF2, HW2⟩
        case measure => simp [intOf]; omega
    · obtain rfl : k = n := by omega
      have HF2 : Hid (FindAt l K l.length V b0) := Lib.hid (by rw [HN.out]; exact hF.out)
      go_wp2
      go_ret2
      exact ⟨V, b0, rfl, HF2.out, hW.out⟩
end Go.Proofs.YtlchagphjmfooaaDoor
