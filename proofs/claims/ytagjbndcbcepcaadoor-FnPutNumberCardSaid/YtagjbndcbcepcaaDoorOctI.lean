/- impl.Octal: one contract. -/
import Derived.Test.YtagjbndcbcepcaaDoorPU8
import Derived.Test.YtagjbndcbcepcaaDoorTrD
import Derived.Test.YtagjbndcbcepcaaDoorText
import Derived.Stop.IfaceNil
namespace Go.Proofs.YtagjbndcbcepcaaDoor
open Go.RowKit Go.PlainAid
set_option linter.unusedVariables false

theorem isErr : (match Tryd.prog.underlying 39 with | some (.interface _) => true | _ => false) = true := by kernel_rfl
theorem bytesWorld_below (w : World) (e : TypeId) (s : ByteArray) : Below w.heap.size w (Lib.bytesWorld w e s) := Lib.below_freeze (((Below.refl _ w).drew).alloc (Nat.le_refl _) _) (Nat.le_refl _) _
/-- The number that the digits tell. -/
def Is8 (l : List UInt8) (u : Nat) : Prop := all8 l ∧ v8 0 l = u ∧ u < 18446744073709551616
def P8Yes (u : Nat) (w : World) (e : Ending) (w' : World) : Prop := e = .returned (.tuple #[.int .u64 u, .nilIface]) ∧ Below w.heap.size w w'
def P8No (w : World) (e : Ending) (w' : World) : Prop := (∃ (x : Nat) (N : Nat), x < 18446744073709551616 ∧ e = .returned (.tuple #[.int .u64 x, .iface 83 (.pointer (some ⟨N, 0, none⟩))])) ∧ Below w.heap.size w w'
set_option maxHeartbeats 800000 in
set_option maxRecDepth 20000 in
theorem parse8_yes (s : ByteArray) (u : Nat) (w : World) (hne : s.size ≠ 0) (hs : s.size ≤ 4611686018427387904) (h : Is8 s.data.toList u) :
    Calls Tryd.prog 37 #[.string s, .int .i64 8, .int .i64 64] w (P8Yes u w) := by
  have HP := Lib.hid (parse8I s hne hs w)
  have HE : Hid (p8 0 s.data.toList = .ok u) := Lib.hid ((p8_ok _ 0 u (by omega)).2 h)
  have HB := Lib.hid (bytesWorld_below w 5 s)
  have hneq := fun w => run_neq_nil_nil_at (P := Tryd.prog) (w := w) 39 isErr
  clear h
  go_enter Tryd.func37, Tryd.ntmps37
  go_wp2_with fail
  refine HP.out.mono ?_
  rw [HE.out]
  unfold Lib.uintTuple
  rintro e w1 ⟨rfl, rfl⟩
  obtain ⟨w1, hw1⟩ : ∃ w1, w1 = Lib.bytesWorld w 5 s := ⟨_, rfl⟩
  rw [← hw1] at HB ⊢
  clear hw1
  go_wp2
  go_ret2
  exact ⟨rfl, HB.out⟩
set_option maxHeartbeats 800000 in
set_option maxRecDepth 20000 in
theorem parse8_no {B : Nat} {a1 a2 : Addr} (s : ByteArray) (w : World) (hne : s.size ≠ 0) (hs : s.size ≤ 281474976710656) (h : ∀ u, ¬ Is8 s.data.toList u) (hE1 : Err w.heap.size w 2 a1) (hE2 : Err w.heap.size w 3 a2) :
    Calls Tryd.prog 37 #[.string s, .int .i64 8, .int .i64 64] w (P8No w) := by
  have HP := Lib.hid (parse8I s hne (by omega) w)
  have HB := Lib.hid (bytesWorld_below w 5 s)
  have H1 := Lib.hid (hE1.more (bytesWorld_below w 5 s))
  have H2 := Lib.hid (hE2.more (bytesWorld_below w 5 s))
  have hneq := fun w x => run_neq_iface_nil (P := Tryd.prog) (w := w) 39 isErr 80 x
  have hcase : p8 0 s.data.toList = Lib.NumEnd.syntax ∨ p8 0 s.data.toList = .range := by
    cases hp : p8 0 s.data.toList with
    | ok u => exact absurd ((p8_ok _ 0 u (by omega)).1 hp) (h u)
    | range => exact .inr rfl
    | _ => exact .inl rfl
  clear h hE1 hE2
  rcases hcase with hc | hc
  · have HE := Lib.hid hc
    clear hc
    go_enter Tryd.func37, Tryd.ntmps37
    go_wp2_with fail
    refine HP.out.mono ?_
    rw [HE.out]
    unfold Lib.uintTuple
    rintro e w1 ⟨rfl, rfl⟩
    obtain ⟨w1, hw1⟩ : ∃ w1, w1 = Lib.bytesWorld w 5 s := ⟨_, rfl⟩
    rw [← hw1] at HB H1 H2 ⊢
    clear hw1
    go_wp2_with fail
    refine (Tryd.strconv_toError_syntax _ s _ _ _ w1 hs H1.out.cell (.inr ⟨_, _, rfl⟩)).mono ?_
    rintro e w2 ⟨N, rfl, _, _, hb⟩
    have HB2 : Hid (Below w.heap.size w w2) := Lib.hid (HB.out.trans (hb.mono HB.out.size))
    clear hb
    go_wp2
    go_ret2
    exact ⟨⟨0, N, by omega, rfl⟩, HB2.out⟩
  · have HE := Lib.hid hc
    clear hc
    go_enter Tryd.func37, Tryd.ntmps37
    go_wp2_with fail
    refine HP.out.mono ?_
    rw [HE.out]
    unfold Lib.uintTuple
    rintro e w1 ⟨rfl, rfl⟩
    obtain ⟨w1, hw1⟩ : ∃ w1, w1 = Lib.bytesWorld w 5 s := ⟨_, rfl⟩
    rw [← hw1] at HB H1 H2 ⊢
    clear hw1
    go_wp2_with fail
    refine (Tryd.strconv_toError_range _ s _ _ _ w1 hs H2.out.cell (.inr ⟨_, _, rfl⟩)).mono ?_
    rintro e w2 ⟨N, rfl, _, _, hb⟩
    have HB2 : Hid (Below w.heap.size w w2) := Lib.hid (HB.out.trans (hb.mono HB.out.size))
    clear hb
    go_wp2
    go_ret2
    exact ⟨⟨18446744073709551615, N, by omega, rfl⟩, HB2.out⟩

/-! ### parseOctal -/
theorem wrap_i64' (n : Int) : IntKind.i64.wrap n = wrap64 n := by rw [IntKind.wrap_i64]; unfold wrap64; omega
/-- What the program reads of a field of octal digits. -/
def OctR (bs : List UInt8) (x : Int) (ok : Bool) : Prop := ∃ t, TrimTo bs t ∧ ((t = [] ∧ x = 0 ∧ ok = true) ∨ (t ≠ [] ∧ ((∃ u, Is8 (txt t) u ∧ x = wrap64 (u : Int) ∧ ok = true) ∨ ((∀ u, ¬ Is8 (txt t) u) ∧ ok = false))))
theorem txt_upTo0 (l : List UInt8) : txt l = upTo0 l := rfl
theorem txt_ne {bs t : List UInt8} (h : TrimTo bs t) (ht : t ≠ []) : txt t ≠ [] := by
  obtain ⟨_, _, _, _, _, h1, _⟩ := h
  cases t with
  | nil => exact absurd rfl ht
  | cons c r =>
    have hc := h1 c rfl
    unfold txt fz
    rw [List.findIdx_cons]
    have : (c == 0) = false := by
      have h2 : c ≠ 0 := fun e => hc (.inr e)
      simpa using h2
    rw [this]
    simp
/-- The parser's block behind the call: no error, or the package's own. -/
def ParsAt (w : World) (P : Nat) (a : Addr) (ok : Bool) : Prop := (ok = true → Blk w P 41 [.nilIface]) ∧ (ok = false → Blk w P 41 [errV a])
def OctP (bs : List UInt8) (w : World) (B P : Nat) (a : Addr) (e : Ending) (w' : World) : Prop := ∃ x ok, e = .returned (.int .i64 x) ∧ OctR bs x ok ∧ ParsAt w' P a ok ∧ Below B w w'
set_option maxHeartbeats 1600000 in
set_option maxRecDepth 20000 in
theorem parseOctal_any {a a1 a2 : Addr} (A : Option Addr) (n c B P : Nat) (bs : List UInt8) (w : World) (hn : bs.length = n) (hr : RB w w.heap.size A bs) (hnc : n ≤ c) (hA : A = none → c = 0) (hm : n ≤ 70368744177664)
    (hP : Blk w P 41 [.nilIface]) (hBP : B ≤ P) (hBw : B ≤ w.heap.size) (hg : 0 ≠ P)
    (hE : Err w.heap.size w 0 a) (hE1 : Err w.heap.size w 2 a1) (hE2 : Err w.heap.size w 3 a2) :
    Calls Tryd.prog 29 #[.pointer (some ⟨P, 0, none⟩), .slice A n c] w (OctP bs w B P a) := by
  have HN := Lib.hid hn
  have HT := Lib.hid (trim_any A n c w.heap.size bs w hn hr (Nat.le_refl _) hnc hA hm)
  have HP := Lib.hid hP
  have HE := Lib.hid hE
  have HE1 := Lib.hid hE1
  have HE2 := Lib.hid hE2
  clear hn hr hA hP hE hE1 hE2
  go_enter Tryd.func29, Tryd.ntmps29
  go_wp2_with fail
  refine HT.out.mono ?_
  rintro e w1 ⟨⟨A', m, c', t, rfl, ht, htm, hmc, hRt, hA'⟩, hb1⟩
  have HB1 := Lib.hid hb1
  have HTr := Lib.hid ht
  have HRt := Lib.hid hRt
  have HA' := Lib.hid hA'
  have HTm := Lib.hid htm
  have HP1 := Lib.hid (HP.out.below hb1 HP.out.lt)
  clear hb1 ht hRt hA' htm HT
  by_cases h0 : m = 0
  · subst h0
    have HZ : Hid (t = []) := Lib.hid (List.eq_nil_of_length_eq_zero HTm.out)
    go_wp2_with fail
    go_ret
    exact ⟨0, true, rfl, ⟨t, HTr.out, .inl ⟨HZ.out, rfl, rfl⟩⟩, ⟨fun _ => HP1.out, fun h => by cases h⟩, HB1.out.mono hBw⟩
  have hm0 : ¬ (m : Int) = 0 := by omega
  have hne : t ≠ [] := fun e => h0 (by rw [← HTm.out, e]; rfl)
  have HNE := Lib.hid hne
  have htne := txt_ne HTr.out hne
  have hs0 : (mkS (txt t)).size ≠ 0 := by
    show (txt t).toArray.size ≠ 0
    rw [List.size_toArray]
    exact fun h => htne (List.eq_nil_of_length_eq_zero h)
  have htl : (txt t).length ≤ n := by
    have h1 : (txt t).length ≤ t.length := by unfold txt; rw [List.length_take]; omega
    obtain ⟨a', b', e', _⟩ := HTr.out
    have h2 := congrArg List.length e'
    rw [HN.out, List.length_append, List.length_append] at h2
    omega
  have hsz : (mkS (txt t)).size ≤ 281474976710656 := by
    show (txt t).toArray.size ≤ _
    rw [List.size_toArray]
    omega
  have HDL : Hid ((mkS (txt t)).data.toList = txt t) := Lib.hid (by simp [mkS])
  obtain ⟨s, hs⟩ : ∃ s, mkS (txt t) = s := ⟨_, rfl⟩
  have HPS := Lib.hid (parseString_any (.pointer (some ⟨P, 0, none⟩)) A' m c' _ t w1 HTm.out HRt.out HA'.out hmc)
  rw [hs] at hs0 hsz HDL HPS
  clear hs hne htne htl
  by_cases hi : ∃ u, Is8 (txt t) u
  · obtain ⟨u, hu⟩ := hi
    have HU := Lib.hid hu
    have hneq := fun w => run_neq_nil_nil_at (P := Tryd.prog) (w := w) 39 isErr
    clear hu
    go_wp2_with fail
    refine HPS.out.mono ?_
    rintro e w2 ⟨rfl, rfl⟩
    go_wp2_with fail
    refine (parse8_yes s u _ hs0 (by omega) (by rw [HDL.out]; exact HU.out)).mono ?_
    rintro e w2 ⟨rfl, hb2⟩
    have HB2 := Lib.hid ((HB1.out.trans (hb2.mono HB1.out.size)).mono hBw)
    have HP2 := Lib.hid (HP1.out.below hb2 HP1.out.lt)
    clear hb2
    go_wp2
    go_ret
    exact ⟨_, true, rfl, ⟨t, HTr.out, .inr ⟨HNE.out, .inl ⟨u, HU.out, by first | rfl | exact wrap_i64' _, rfl⟩⟩⟩, ⟨fun _ => HP2.out, fun h => by cases h⟩, HB2.out⟩
  · have HI : Hid (∀ u, ¬ Is8 (txt t) u) := Lib.hid (fun u hu => hi ⟨u, hu⟩)
    have hneq := fun w x => run_neq_iface_nil (P := Tryd.prog) (w := w) 39 isErr 83 x
    clear hi
    go_wp2_with fail
    refine HPS.out.mono ?_
    rintro e w2 ⟨rfl, rfl⟩
    go_wp2_with fail
    refine (parse8_no (B := 0) s _ hs0 hsz (by rw [HDL.out]; exact HI.out) (HE1.out.more HB1.out) (HE2.out.more HB1.out)).mono ?_
    rintro e w2 ⟨⟨x, N, hx, rfl⟩, hb2⟩
    have HB2 := Lib.hid ((HB1.out.trans (hb2.mono HB1.out.size)).mono hBw)
    have HP2 := Lib.hid (HP1.out.below hb2 HP1.out.lt)
    have HE3 := Lib.hid ((HE.out.more HB1.out).more hb2)
    have k1 := HE3.out.cell
    unfold errV at k1
    have p0 : w2.cell? ⟨P, 0, none⟩ = some .nilIface := by rw [HP2.out.cell]; rfl
    have f0 := HP2.out.frozen 0
    clear hb2
    go_wp2
    go_ret
    refine ⟨_, false, rfl, ⟨t, HTr.out, .inr ⟨HNE.out, .inr ⟨HI.out, rfl⟩⟩⟩, ⟨(fun h => by cases h), fun _ => ?_⟩, HB2.out.setCell hBP _⟩
    exact HP2.out.set_ 0 (errV a)

/-! ### impl.Octal -/
def NumP (R : List UInt8 → Int → Bool → Prop) (bs : List UInt8) (w : World) (e : Ending) (w' : World) : Prop := ∃ x ok, e = .returned (.tuple #[.int .i64 x, .bool ok]) ∧ R bs x ok ∧ Below w.heap.size w w'
theorem parser_new (w : World) : Blk (w.alloc (.cells #[.nilIface] 41)) w.heap.size 41 [.nilIface] := Blk.new w _ [.nilIface]
set_option maxHeartbeats 1600000 in
set_option maxRecDepth 20000 in
theorem zzOctal {a a1 a2 : Addr} (A : Option Addr) (n c B : Nat) (bs : List UInt8) (w : World) (hn : bs.length = n) (hr : RB w B A bs) (hB : B ≤ w.heap.size) (hm : n ≤ 2147483647)
    (hE : Err w.heap.size w 0 a) (hE1 : Err w.heap.size w 2 a1) (hE2 : Err w.heap.size w 3 a2) :
    Calls Tryd.prog 23 #[.slice A n c] w (NumP OctR bs w) := by
  have HN := Lib.hid hn
  have hz := zero_parser
  have HRA := Lib.hid (hr.alloc hB (.cells #[.nilIface] 41))
  have HB0 : Hid (Below w.heap.size w (w.alloc (.cells #[.nilIface] 41))) := Lib.hid ((Below.refl _ w).alloc (Nat.le_refl _) _)
  have HPN := Lib.hid (parser_new w)
  have HE := Lib.hid hE
  have HE1 := Lib.hid hE1
  have HE2 := Lib.hid hE2
  have hg : 0 ≠ w.heap.size := Nat.ne_of_lt hE.lg
  clear hn hr hE hE1 hE2
  go_enter Tryd.func23, Tryd.ntmps23
  go_wp2_with fail
  refine (clone_any A n c B bs _ HN.out HRA.out (by simp; omega) (by omega)).mono ?_
  rintro e w1 ⟨v, rfl, hown, hbel⟩
  obtain ⟨A', c', rfl, hcz, hnc, hblk⟩ := own_form hown
  have HRB := Lib.hid (RB.of_RC (RC.of_own hown))
  have HCZ := Lib.hid hcz
  have HB1 : Hid (Below w.heap.size w w1) := Lib.hid (HB0.out.trans (hbel.mono HB0.out.size))
  have HP1 := Lib.hid (HPN.out.below hbel HPN.out.lt)
  clear hown hblk hcz hbel
  go_wp2_with fail
  refine (parseOctal_any A' n c' w.heap.size w.heap.size bs w1 HN.out HRB.out hnc HCZ.out (by omega) HP1.out (Nat.le_refl _) HB1.out.size hg (HE.out.more HB1.out) (HE1.out.more HB1.out) (HE2.out.more HB1.out)).mono ?_
  rintro e w2 ⟨x, ok, rfl, hR, hPa, hb2⟩
  have HR := Lib.hid hR
  have HB2 : Hid (Below w.heap.size w w2) := Lib.hid (HB1.out.trans hb2)
  clear hR hb2
  cases ok with
  | true =>
    have HPa := Lib.hid (hPa.1 rfl)
    clear hPa
    have p0 : w2.cell? ⟨w.heap.size, 0, none⟩ = some .nilIface := by rw [HPa.out.cell]; rfl
    have hneq := fun w => run_eql_nil_nil_at (P := Tryd.prog) (w := w) 39 isErr
    go_wp2
    go_region_held3 (fun w' => w'.cell? ⟨w.heap.size, 0, none⟩ = some .nilIface) (go_keep) (fail)
    go_wp2
    go_ret2
    exact ⟨x, true, rfl, HR.out, HB2.out.drew⟩
  | false =>
    have HPa := Lib.hid (hPa.2 rfl)
    clear hPa
    have p0 : w2.cell? ⟨w.heap.size, 0, none⟩ = some (.iface 115 (.pointer (some a))) := by rw [HPa.out.cell]; rfl
    have hneq := fun w x => run_eql_iface_nil (P := Tryd.prog) (w := w) 39 isErr 115 x
    go_wp2
    go_region_held3 (fun w' => w'.cell? ⟨w.heap.size, 0, none⟩ = some (.iface 115 (.pointer (some a)))) (go_keep) (fail)
    go_wp2
    go_ret2
    exact ⟨x, false, rfl, HR.out, HB2.out.drew⟩
set_option maxHeartbeats 800000 in
set_option maxRecDepth 20000 in
theorem implOctal {a a1 a2 : Addr} (A : Option Addr) (n c B : Nat) (bs : List UInt8) (w : World) (hn : bs.length = n) (hr : RB w B A bs) (hB : B ≤ w.heap.size) (hm : n ≤ 2147483647)
    (hE : Err w.heap.size w 0 a) (hE1 : Err w.heap.size w 2 a1) (hE2 : Err w.heap.size w 3 a2) :
    Calls Tryd.prog 10 #[.slice A n c] w (NumP OctR bs w) := by
  have HZ := Lib.hid (zzOctal A n c B bs w hn hr hB hm hE hE1 hE2)
  clear hn hr hE hE1 hE2
  go_enter Tryd.func10, Tryd.ntmps10
  go_wp2_with fail
  refine HZ.out.mono ?_
  rintro e w1 ⟨x, ok, rfl, hR, hb⟩
  have HR := Lib.hid hR
  have HB := Lib.hid hb
  clear hR hb
  go_wp2
  go_ret2
  exact ⟨x, ok, rfl, HR.out, HB.out⟩
end Go.Proofs.YtagjbndcbcepcaaDoor
