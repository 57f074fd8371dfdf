/- The law FnRecords: its own walk. -/
import Derived.Test.YtlchagphjmfooaaDoorRecP
namespace Go.Proofs.YtlchagphjmfooaaDoor
open Go.RowKit Go.PlainAid
set_option linter.unusedVariables false

set_option maxRecDepth 20000 in
set_option maxHeartbeats 1600000 in
/-- recordsAre at equal rows. -/
theorem recsAre (A A' : Option Addr) (n c c' B B' : Nat) (l : List (ByteArray × ByteArray)) (w : World) (hn : l.length = n) (hr : RC w B A (recsV l)) (hr' : RC w B' A' (recsV l)) (hl : n ≤ 2147483647) :
    Calls Tryd.prog 32 #[.slice A n c, .slice A' n c'] w fun e w' => e = .returned (.bool true) ∧ Below w.heap.size w w' := by
  have HR := Lib.hid hr
  have HR2 := Lib.hid hr'
  have HN := Lib.hid hn
  clear hr hr' hn
  go_enter Tryd.func32, Tryd.ntmps32
  go_wp2
  go_loopw [5, 13] (fun u i wr => ∃ k : Nat, k ≤ n ∧ i = .int .i64 k ∧ Hid (RC wr B A (recsV l)) ∧ Hid (RC wr B' A' (recsV l)) ∧ Hid (Below w.heap.size w wr)) (fun _ i _ => n - (intOf i).toNat)
  case atStart => exact ⟨0, by omega, rfl, HR, HR2, Lib.hid (Below.refl _ _)⟩
  case round =>
    obtain ⟨k, hk, rfl, hR, hR', hW⟩ := hrel
    by_cases hlt : k < n
    · obtain ⟨b, off, rfl, _, hc1, hc2⟩ := hR.out.rec_ (k := k) (by rw [HN.out]; exact hlt)
      obtain ⟨b', off', rfl, _, hd1, hd2⟩ := hR'.out.rec_ (k := k) (by rw [HN.out]; exact hlt)
      go_wp2
      go_region
      go_wp2
      go_roundw
      case rel => exact ⟨k + 1, by omega, by go_num, hR, hR', Lib.hid hW.out.drew⟩
      case measure => simp [intOf]; omega
    · obtain rfl : k = n := by omega
      go_wp2
      go_ret
      exact ⟨rfl, hW.out⟩
theorem bytesRow (w : World) (s : ByteArray) : RB (Lib.bytesWorld w 5 s) (w.heap.size + 1) (some ⟨w.heap.size, 0, none⟩) s.data.toList := fun h => by
  refine ⟨_, _, rfl, Nat.lt_succ_self _, fun i hi => ?_⟩
  have hi2 : i < s.size := by rw [Lib.size_eq]; exact hi
  rw [Nat.zero_add]
  exact Lib.bytesWorld_cell w _ s i hi2
theorem bytesWorld_size (w : World) (s : ByteArray) : w.heap.size + 1 ≤ (Lib.bytesWorld w 5 s).heap.size := by
  have h := Lib.bytesWorld_at_new w 5 s
  obtain ⟨h1, _⟩ := Array.getElem?_eq_some_iff.1 h
  exact h1
theorem mkS_of (s : ByteArray) : mkS s.data.toList = s := ba_ext (mkS_list _)
/-- impl.Records([]byte(s)) as the documents' verdict has it. -/
structure Told (v : Int) (rs : List (ByteArray × ByteArray)) (G : List (ByteArray × ByteArray) → Prop) (Bd : Prop) : Prop where
  g : ∀ x, G x → v = 0 ∨ (v = 1 ∧ x = rs)
  b : Bd → v = 0 ∨ v = 2
theorem paxFor_all (s : ByteArray) (rs : List (ByteArray × ByteArray)) (v : Int) (hs : s.size ≤ 1048000) (hP : PR s rs v) (hv : v = 0 ∨ v = 1 ∨ v = 2) : ∃ G Bd, PaxFor s.data.toList G Bd ∧ Told v rs G Bd := by
  have hl : s.data.toList.length ≤ 1048000 := by rw [← Lib.size_eq]; exact hs
  rcases hv with h | h
  · exact ⟨_, _, paxFor_any _ hl, ⟨fun _ _ => .inl h, fun _ => .inl h⟩⟩
  · exact ⟨_, _, paxFor_told _ rs v hl (by rw [mkS_of]; exact hP) h, ⟨fun _ hx => .inr hx, fun hx => .inr hx⟩⟩
/-- What impl.Records([]byte(s)) leaves, told by the verdict v. -/
def ConvO (v : Int) (rs : List (ByteArray × ByteArray)) (w : World) (e : Ending) (w' : World) : Prop :=
  (∃ x A c, (v = 0 ∨ (v = 1 ∧ x = rs)) ∧ x.length ≤ 1048001 ∧ e = .returned (.tuple #[.slice A (tab x).length c, .bool true]) ∧ RC w' w'.heap.size A (recsV (tab x)) ∧ Below w.heap.size w w') ∨
  ((v = 0 ∨ v = 2) ∧ ∃ A c, e = .returned (.tuple #[.slice A 0 c, .bool false]) ∧ Below w.heap.size w w')
theorem implConv {a a1 a2 a3 : Addr} (s : ByteArray) (rs : List (ByteArray × ByteArray)) (v : Int) (w : World) (c : Nat) (hs : s.size ≤ 1048000) (hP : PR s rs v) (hv : v = 0 ∨ v = 1 ∨ v = 2)
    (hE : Err w.heap.size w 0 a) (hE1 : Err w.heap.size w 6 a1) (hE2 : Err w.heap.size w 7 a2) (hE3 : Err w.heap.size w 2 a3) :
    Calls Tryd.prog 31 #[.slice (some ⟨w.heap.size, 0, none⟩) s.size c] (Lib.bytesWorld w 5 s) (ConvO v rs w) := by
  obtain ⟨G, Bd, hp, ht⟩ := paxFor_all s rs v hs hP hv
  have hb := bytesWorld_below w 5 s
  refine (implRecords _ s.size c _ s.data.toList _ (Lib.size_eq s).symm (bytesRow w s) (bytesWorld_size w s) hs hp (hE.more hb) (hE1.more hb) (hE2.more hb) (hE3.more hb)).mono ?_
  rintro e w' (⟨x, A, c, h1, h2, h3, h4, h5⟩ | ⟨h1, A, c, h2, h3⟩)
  · exact .inl ⟨x, A, c, ht.g _ h1, h2, h3, h4, hb.trans (h5.mono hb.size)⟩
  · exact .inr ⟨ht.b h1, A, c, h2, hb.trans (h3.mono hb.size)⟩

set_option maxRecDepth 20000 in
set_option maxHeartbeats 3200000 in
theorem fnRecords_walk {a a1 a2 a3 : Addr} (s : ByteArray) (w : World) (hm : s.size ≤ 9223372036854775807)
    (hE : Err w.heap.size w 0 a) (hE1 : Err w.heap.size w 6 a1) (hE2 : Err w.heap.size w 7 a2) (hE3 : Err w.heap.size w 2 a3) :
    Calls Tryd.prog 12 #[.string s] w fun e w' => e = .returned (.bool true) ∧ Below w.heap.size w w' := by
  by_cases hbig : 524288 < s.size
  · by_cases hbig2 : 2147483647 < s.size
    · go_enter Tryd.func12, Tryd.ntmps12
      go_wp2
      go_ret
      exact ⟨rfl, Below.refl _ _⟩
    · go_enter Tryd.func12, Tryd.ntmps12
      go_wp2
      go_ret
      exact ⟨rfl, Below.refl _ _⟩
  have hs : s.size ≤ 524288 := by omega
  clear hbig
  have HE := Lib.hid hE
  have HE1 := Lib.hid hE1
  have HE2 := Lib.hid hE2
  have HE3 := Lib.hid hE3
  clear hE hE1 hE2 hE3
  go_enter Tryd.func12, Tryd.ntmps12
  go_wp2_with fail
  refine (specRecords s w (by omega)).mono ?_
  rintro e w1 ⟨rs, v, A, n, c, hP, rfl, hv, hn, hb⟩
  have HV := Lib.hid hv
  have HNV := Lib.hid hn
  have HB1 := Lib.hid hb
  have hvi : -9223372036854775808 ≤ v ∧ v ≤ 9223372036854775807 := by omega
  have HI := fun c => Lib.hid (implConv s rs v w1 c (by omega) hP hv (HE.out.more hb) (HE1.out.more hb) (HE2.out.more hb) (HE3.out.more hb))
  have hcv := Lib.run_convert_string_bytes (P := Tryd.prog) w1 9 62 5 s (u := .string) Tryd.underlying9 Tryd.underlying62 Tryd.underlying5
  obtain ⟨w2, hw2⟩ : ∃ w2, w2 = Lib.bytesWorld w1 5 s := ⟨_, rfl⟩
  rw [← hw2] at hcv HI
  have hbw := HB1.out.size
  clear hv hn hb hP hw2
  go_wp2_with fail
  refine (HI _).out.mono ?_
  rintro e w3 (⟨x, A3, c3, hx, hxl, rfl, hr, hb3⟩ | ⟨hx, A3, c3, rfl, hb3⟩)
  · have HB3 := Lib.hid (HB1.out.trans (hb3.mono HB1.out.size))
    have HR := Lib.hid hr
    have HXL := Lib.hid hxl
    have HX := Lib.hid hx
    have HB13 := Lib.hid hb3
    obtain ⟨m, hm⟩ : ∃ m, (tab x).length = m := ⟨_, rfl⟩
    have HM := Lib.hid hm
    rw [hm]
    clear hr hxl hx hb3 hm HI
    rcases HV.out with h | h | h
    · subst h
      go_wp2
      go_ret
      exact ⟨rfl, HB3.out⟩
    · subst h
      have HXR : Hid (x = rs) := Lib.hid (HX.out.elim (fun h => by cases h) (fun h => h.2))
      obtain ⟨q1, q2⟩ := HNV.out rfl
      have HR2 : Hid (RC w3 w1.heap.size A (recsV (tab x))) := Lib.hid (by rw [HXR.out]; exact q2.below HB13.out)
      obtain rfl : n = m := by rw [q1, ← HM.out, HXR.out]
      have hml : n ≤ 2147483647 := by rw [← HM.out]; have := tab_len x; have := HXL.out; omega
      clear q1 q2 HNV
      go_wp2_with fail
      refine (recsAre A3 A n c3 c _ _ (tab x) _ HM.out HR.out HR2.out hml).mono ?_
      rintro e w4 ⟨rfl, hb4⟩
      have HB4 := Lib.hid (HB3.out.trans (hb4.mono HB3.out.size))
      clear hb4
      go_wp2
      go_ret
      exact ⟨rfl, HB4.out⟩
    · exfalso
      rcases HX.out with h2 | h2 <;> omega
  · have HB3 := Lib.hid (HB1.out.trans (hb3.mono HB1.out.size))
    clear hb3 HI
    rcases hx with h | h
    · subst h
      go_wp2
      go_ret
      exact ⟨rfl, HB3.out⟩
    · subst h
      go_wp2
      go_ret
      exact ⟨rfl, HB3.out⟩
end Go.Proofs.YtlchagphjmfooaaDoor
