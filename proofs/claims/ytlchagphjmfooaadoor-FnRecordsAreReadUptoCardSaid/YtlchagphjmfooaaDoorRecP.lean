/- ZZRecords and impl.Records at any bytes; what they answer where the documents tell Right or Wrong. -/
import Derived.Test.YtlchagphjmfooaaDoorPaxN
import Derived.Test.YtlchagphjmfooaaDoorSort
namespace Go.Proofs.YtlchagphjmfooaaDoor
open Go.RowKit Go.PlainAid Go.Maps Go.ChangeMaps Go.MapKept Go.WideMaps
set_option linter.unusedVariables false

theorem PR.bound {s : ByteArray} {rs : List (ByteArray × ByteArray)} {v : Int} (h : PR s rs v) : rs.length ≤ s.size ∧ ∀ x ∈ rs, x.1.size ≤ s.size ∧ x.2.size ≤ s.size := by
  induction h with
  | nil _ => exact ⟨Nat.zero_le _, fun _ h => by cases h⟩
  | stop _ _ => exact ⟨Nat.zero_le _, fun _ h => by cases h⟩
  | bad _ _ _ => exact ⟨Nat.zero_le _, fun _ h => by cases h⟩
  | cons h0 h1 h2 _ ih =>
    obtain ⟨q1, q2, q3⟩ := readV_rest h1
    refine ⟨by rw [List.length_cons]; have := ih.1; omega, fun x hx => ?_⟩
    rcases List.mem_cons.1 hx with h | h
    · rw [h]; exact ⟨q2, q3⟩
    · have := ih.2 x h
      omega
/-- What parsePAX leaves: records that are G, or an error that may be. -/
def PO (G : List (ByteArray × ByteArray) → Prop) (Bd : Prop) (Br : Nat) (a : Addr) (w : World) (e : Ending) (w' : World) : Prop :=
  (∃ b nn rs, G rs ∧ e = .returned (.tuple #[.map (some b), .nilIface]) ∧ w'.ownsMap Tryd.prog 9 (plainElem Tryd.prog 9) b nn (mapOf rs) ∧ rs.length ≤ 1048001 ∧ (∀ x ∈ rs, x.1.size ≤ 4000000000000 ∧ x.2.size ≤ 4000000000000) ∧ Far [Br] w w') ∨
  (Bd ∧ e = .returned (.tuple #[.map none, errV a]) ∧ Far [Br] w w')
/-- What impl.Records leaves. -/
def RecO (E : TypeId) (G : List (ByteArray × ByteArray) → Prop) (Bd : Prop) (w : World) (e : Ending) (w' : World) : Prop :=
  (∃ rs A c, G rs ∧ rs.length ≤ 1048001 ∧ e = .returned (.tuple #[.slice A (tab rs).length c, .bool true]) ∧ RC w' w'.heap.size A (recsV (tab rs)) ∧ Below w.heap.size w w') ∨
  (Bd ∧ ∃ A c, e = .returned (.tuple #[.slice A 0 c, .bool false]) ∧ Below w.heap.size w w')
/-- A contract of parsePAX for a text. -/
def PaxFor (D : List UInt8) (G : List (ByteArray × ByteArray) → Prop) (Bd : Prop) : Prop :=
  ∀ (Br : Nat) (w : World) (a a1 a2 a3 : Addr), BrAt Br D w → Err Br w 0 a → Err Br w 6 a1 → Err Br w 7 a2 → Err Br w 2 a3 →
    Calls Tryd.prog 70 #[.iface 126 (.pointer (some ⟨Br, 0, none⟩))] w (PO G Bd Br a w)
theorem paxFor_any (D : List UInt8) (hD : D.length ≤ 1048000) : PaxFor D (fun _ => True) True := by
  intro Br w a a1 a2 a3 hb hE hE1 hE2 hE3
  refine (parsePaxN Br D w hb hD hE hE1 hE2 hE3).mono ?_
  rintro e w' (⟨b, nn, rs, h1, h2, h3, h4, h5, h6⟩ | ⟨h1, h2⟩)
  · exact .inl ⟨b, nn, rs, trivial, h1, h2, h3, h4, h6⟩
  · exact .inr ⟨trivial, h1, h2⟩
theorem paxFor_told (D : List UInt8) (rs : List (ByteArray × ByteArray)) (v : Int) (hD : D.length ≤ 1048000) (hP : PR (mkS D) rs v) (hv : v = 1 ∨ v = 2) : PaxFor D (fun x => v = 1 ∧ x = rs) (v = 2) := by
  intro Br w a a1 a2 a3 hb hE hE1 hE2 hE3
  have hbd := hP.bound
  rw [mkS_len] at hbd
  refine (parsePax Br D rs v w hb hD hP hv hE hE1 hE2 hE3).mono ?_
  rintro e w' (⟨h0, b, nn, h1, h2, h3, h4⟩ | ⟨h0, h1, h2⟩)
  · exact .inl ⟨b, nn, rs, ⟨h0, rfl⟩, h1, h2, by omega, (fun x hx => by have := hbd.2 x hx; omega), h4⟩
  · exact .inr ⟨h0, h1, h2⟩

set_option maxRecDepth 20000 in
set_option maxHeartbeats 1600000 in
theorem zzRecords {a a1 a2 a3 : Addr} {G : List (ByteArray × ByteArray) → Prop} {Bd : Prop} (A : Option Addr) (n c B : Nat) (D : List UInt8) (w : World) (hn : D.length = n) (hr : RB w B A D) (hB : B ≤ w.heap.size) (hD : n ≤ 1048000) (hp : PaxFor D G Bd)
    (hE : Err w.heap.size w 0 a) (hE1 : Err w.heap.size w 6 a1) (hE2 : Err w.heap.size w 7 a2) (hE3 : Err w.heap.size w 2 a3) :
    Calls Tryd.prog 51 #[.slice A n c] w (RecO 88 G Bd w) := by
  have HC := Lib.hid (clone_any A n c B D w hn hr hB (by omega))
  have HE := Lib.hid hE
  have HE1 := Lib.hid hE1
  have HE2 := Lib.hid hE2
  have HE3 := Lib.hid hE3
  have HP := Lib.hid hp
  have HN := Lib.hid hn
  clear hr hE hE1 hE2 hE3 hp hn
  go_enter Tryd.func51, Tryd.ntmps51
  go_wp2_with fail
  refine HC.out.mono ?_
  rintro e w1 ⟨v, rfl, ho, hb1⟩
  obtain ⟨A1, c1, rfl, _, hc1, hA1⟩ := own_form ho
  have HB1 := Lib.hid hb1
  have HA1 := Lib.hid hA1
  have HR1 : Hid (RB w1 w1.heap.size A1 D) := Lib.hid (RB.of_RC (RC.of_own ho))
  clear ho hb1 hA1 HC
  go_wp2_with fail
  refine (newReader A1 n c1 w1).mono ?_
  rintro e w2 ⟨rfl, hw2⟩
  have HBR : Hid (BrAt w1.heap.size D w2) := Lib.hid (by rw [← hw2]; exact BrAt.new HR1.out HN.out hc1 (by omega) (fun ad h => (HA1.out ad h).2.1))
  have HBW : Hid (Below w1.heap.size w1 w2) := Lib.hid (by rw [← hw2]; exact (Below.refl _ w1).alloc (Nat.le_refl _) _)
  clear hw2
  go_wp2_with fail
  refine (HP.out w1.heap.size w2 a a1 a2 a3 HBR.out ((HE.out.more HB1.out).below HBW.out (Nat.le_refl _)) ((HE1.out.more HB1.out).below HBW.out (Nat.le_refl _)) ((HE2.out.more HB1.out).below HBW.out (Nat.le_refl _)) ((HE3.out.more HB1.out).below HBW.out (Nat.le_refl _))).mono ?_
  rintro e w3 (⟨b, nn, rs, hg, rfl, hm, hl, hz, hf⟩ | ⟨hbd, rfl, hf⟩)
  · have HM := Lib.hid hm
    have HL := Lib.hid hl
    have HZ := Lib.hid hz
    have HG := Lib.hid hg
    have HB3 : Hid (Below w.heap.size w w3) := Lib.hid (HB1.out.trans ((HBW.out.mono HB1.out.size).trans ((hf.below (B := w1.heap.size) (fun k hk => by simp at hk; omega) (HBW.out.size)).mono HB1.out.size)))
    have hneq := fun w => run_neq_nil_nil_at (P := Tryd.prog) (w := w) 105 isErr
    clear hm hl hz hg hf
    go_wp2_with fail
    refine (zzSorted_any b nn rs _ HM.out HL.out HZ.out).mono ?_
    rintro e w4 ⟨v4, rfl, ho4, hb4⟩
    obtain ⟨A4, c4, rfl, _, _, _⟩ := own_form ho4
    have HR4 := Lib.hid (RC.of_own ho4)
    have HB4 := Lib.hid (HB3.out.trans (hb4.mono HB3.out.size))
    clear ho4 hb4
    go_wp2
    go_ret2
    exact .inl ⟨rs, A4, c4, HG.out, HL.out, rfl, HR4.out, HB4.out⟩
  · have HBD := Lib.hid hbd
    have HB3 : Hid (Below w.heap.size w w3) := Lib.hid (HB1.out.trans ((HBW.out.mono HB1.out.size).trans ((hf.below (B := w1.heap.size) (fun k hk => by simp at hk; omega) (HBW.out.size)).mono HB1.out.size)))
    have hneq := fun w x => run_neq_iface_nil (P := Tryd.prog) (w := w) 105 isErr 226 x
    unfold errV
    clear hf hbd
    go_wp2
    go_ret2
    exact .inr ⟨HBD.out, _, _, rfl, HB3.out⟩

theorem irecs : (Tryd.prog.info? 27).map (fun i => (i.zero, i.size, i.bytes)) = some (some (.agg #[.string ⟨#[]⟩, .string ⟨#[]⟩]), 2, 32) := by kernel_rfl
set_option maxRecDepth 20000 in
set_option maxHeartbeats 1600000 in
/-- impl.records: a copy. -/
theorem implRecs (A : Option Addr) (n c B : Nat) (l : List (ByteArray × ByteArray)) (w : World) (hn : l.length = n) (hr : RC w B A (recsV l)) (hB : B ≤ w.heap.size) (hl : n ≤ 2147483647) :
    Calls Tryd.prog 52 #[.slice A n c] w (MadeR 27 n l w) := by
  have HR := Lib.hid hr
  have HN := Lib.hid hn
  clear hr hn
  go_enter Tryd.func52, Tryd.ntmps52
  go_wp2
  go_loopw [3, 8] (fun v i wr => ∃ k : Nat, k ≤ n ∧ i = .int .i64 k ∧ Hid (wr.ownsRow w.heap.size 27 2 v k (recsV (l.take k))) ∧ Hid (Below w.heap.size w wr)) (fun _ i _ => n - (intOf i).toNat)
  case atStart => exact ⟨0, by omega, rfl, Lib.hid (World.ownsRow_nil _ _ _ _), Lib.hid (Below.refl _ _)⟩
  case round =>
    obtain ⟨k, hk, rfl, hO, hW⟩ := hrel
    obtain ⟨A', c', rfl, _, _, _⟩ := own_form hO.out
    by_cases hlt : k < n
    · obtain ⟨b, off, rfl, _, hc1, hc2⟩ := (HR.out.below (hW.out.mono hB)).rec_ (k := k) (by rw [HN.out]; exact hlt)
      have HB2 := Lib.hid (((hW.out.alloc (o := .cells #[.string (rk l k), .string (rv l k)] 88) hW.out.size).alloc (o := .cells #[.string (rk l k), .string (rv l k)] 27) (by have := hW.out.size; simp; omega)))
      have HP := Lib.hid (recsV_take l k (by rw [HN.out]; exact hlt))
      go_wp2_with (at_builtin; refine wpList_append_rc (o := ⟨some 15, _, _, _, _, _⟩) _ rfl (.tmp 12) (.tmp 14) _ rfl w.heap.size 27 _ 2 32 Tryd.underlying46 irecs rfl (by omega) _ k _ rfl ((hO.out.alloc _).alloc _) _ 1 1 _ _ rfl rfl (rc_new2 _ _ _ _) (two_strs _ _) (by omega) (by omega) (by have := hW.out.size; simp; omega) ?_)
      intro v' w1 h1 h2 h3
      have H1 : Hid (w1.ownsRow w.heap.size 27 2 v' (k + 1) (recsV (l.take (k + 1)))) := Lib.hid (by rw [HP.out]; exact h1.out)
      have H2 := Lib.hid (HB2.out.grown h2.out (by have := hW.out.size; simp; omega) (fun g hg => (hO.out.lt g hg).1))
      clear h1 h2 h3
      go_wp2
      go_roundw
      case rel => exact ⟨k + 1, by omega, by go_num, H1, H2⟩
      case measure => simp [intOf]; omega
    · obtain rfl : k = n := by omega
      have HO2 : Hid (wr.ownsRow w.heap.size 27 2 (.slice A' k c') k (recsV l)) := Lib.hid (by have h := hO.out; rw [List.take_of_length_le (by rw [HN.out]; exact Nat.le_refl _)] at h; exact h)
      go_wp2
      go_ret
      exact ⟨_, rfl, HO2.out, hW.out⟩

set_option maxRecDepth 20000 in
set_option maxHeartbeats 1600000 in
theorem implRecords {a a1 a2 a3 : Addr} {G : List (ByteArray × ByteArray) → Prop} {Bd : Prop} (A : Option Addr) (n c B : Nat) (D : List UInt8) (w : World) (hn : D.length = n) (hr : RB w B A D) (hB : B ≤ w.heap.size) (hD : n ≤ 1048000) (hp : PaxFor D G Bd)
    (hE : Err w.heap.size w 0 a) (hE1 : Err w.heap.size w 6 a1) (hE2 : Err w.heap.size w 7 a2) (hE3 : Err w.heap.size w 2 a3) :
    Calls Tryd.prog 31 #[.slice A n c] w (RecO 27 G Bd w) := by
  have HZ := Lib.hid (zzRecords A n c B D w hn hr hB hD hp hE hE1 hE2 hE3)
  clear hr hE hE1 hE2 hE3 hp hn
  go_enter Tryd.func31, Tryd.ntmps31
  go_wp2_with fail
  refine HZ.out.mono ?_
  rintro e w1 (⟨rs, A1, c1, hg, hl, rfl, hr1, hb1⟩ | ⟨hbd, A1, c1, rfl, hb1⟩)
  · have HG := Lib.hid hg
    have HL := Lib.hid hl
    have HB1 := Lib.hid hb1
    have HR1 := Lib.hid hr1
    obtain ⟨m, hm⟩ : ∃ m, (tab rs).length = m := ⟨_, rfl⟩
    have HM := Lib.hid hm
    have hm2 : m ≤ 1048001 := by rw [← hm]; have := tab_len rs; omega
    rw [hm]
    clear hg hl hb1 hr1 hm HZ
    go_wp2_with fail
    refine (implRecs A1 m c1 _ (tab rs) _ HM.out HR1.out (Nat.le_refl _) (by omega)).mono ?_
    rintro e w2 ⟨v, rfl, ho, hb2⟩
    obtain ⟨A2, c2, rfl, _, _, _⟩ := own_form ho
    have HB2 := Lib.hid (HB1.out.trans (hb2.mono HB1.out.size))
    have HR2 := Lib.hid (RC.of_own ho)
    clear ho hb2
    go_wp2
    go_ret2
    exact .inl ⟨rs, A2, c2, HG.out, HL.out, (by rw [HM.out]; rfl), HR2.out, HB2.out⟩
  · have HBD := Lib.hid hbd
    have HB1 := Lib.hid hb1
    clear hbd hb1 HZ
    go_wp2_with fail
    refine (implRecs A1 0 c1 0 [] w1 rfl (fun h => by cases h) (Nat.zero_le _) (by omega)).mono ?_
    rintro e w2 ⟨v, rfl, ho, hb2⟩
    obtain ⟨A2, c2, rfl, _, _, _⟩ := own_form ho
    have HB2 := Lib.hid (HB1.out.trans (hb2.mono HB1.out.size))
    clear ho hb2
    go_wp2
    go_ret2
    exact .inr ⟨HBD.out, _, _, rfl, HB2.out⟩
end Go.Proofs.YtlchagphjmfooaaDoor
