/- impl.Number: one contract. -/
import Derived.Test.YtagjbndcbcepcaaDoorBinP
import Derived.Test.YtagjbndcbcepcaaDoorOctI
import Derived.Deep.CutBlock
import Derived.Deep.DeepCutAuto
import Derived.Laws.DeepNot64
namespace Go.Proofs.YtagjbndcbcepcaaDoor
open Go.RowKit Go.PlainAid
set_option linter.unusedVariables false

theorem byt_of' {bs : List UInt8} {k : Nat} (h : k < bs.length) : ∃ x : UInt8, bs[k]? = some x ∧ byt bs k = (x.toNat : Int) := ⟨bs[k], List.getElem?_eq_getElem h, by simp [byt, List.getD, h]⟩
theorem binR_no {neg : Bool} {x : UInt8} {r : List UInt8} {L : List Nat} {y : Int} (h1 : neg = negOf x) (h2 : L = digs neg x r) (h : 9223372036854775808 ≤ bn 0 L) : BinR x r y false := by
  subst h1 h2
  exact .inr ⟨h, rfl⟩
theorem binR_yes {neg : Bool} {x : UInt8} {r : List UInt8} {L : List Nat} {y : Int} {U : Nat} (h1 : neg = negOf x) (h2 : L = digs neg x r) (h3 : U = bn 0 L) (h : U < 9223372036854775808) (hy : y = sg neg U) : BinR x r y true := by
  subst h1 h2 h3
  exact .inl ⟨h, rfl, hy⟩
/-- What the reader says of a field whose first byte is not below 128. -/
def BinP (x : UInt8) (r : List UInt8) (w : World) (B P : Nat) (a : Addr) (e : Ending) (w' : World) : Prop := ∃ y ok, e = .returned (.int .i64 y) ∧ BinR x r y ok ∧ ParsAt w' P a ok ∧ Below B w w'
set_option maxHeartbeats 3200000 in
set_option maxRecDepth 20000 in
theorem parseBin {a : Addr} (A : Option Addr) (n c B P : Nat) (x : UInt8) (r : List UInt8) (w : World) (hn : (x :: r).length = n) (hr : RB w w.heap.size A (x :: r)) (hm : n ≤ 70368744177664) (hx : 128 ≤ x.toNat)
    (hP : Blk w P 41 [.nilIface]) (hBP : B ≤ P) (hBw : B ≤ w.heap.size) (hg : 0 ≠ P)
    (hE : Err w.heap.size w 0 a) :
    Calls Tryd.prog 32 #[.pointer (some ⟨P, 0, none⟩), .slice A n c] w (BinP x r w B P a) := by
  obtain ⟨b, off, rfl, _, hc⟩ := hr (by simp)
  have HN := Lib.hid hn
  have HC := Lib.hid hc
  have HP := Lib.hid hP
  have HE := Lib.hid hE
  have h0n : (0 : Int) < (n : Int) := by have := hn; simp at this; omega
  have hcell0 : w.cell? ⟨b, off, none⟩ = some (.int .u8 (x.toNat : Int)) := hc 0 (by simp)
  have hx255 := x.toNat_lt
  have hand : bits .and .u8 (x.toNat : Int) 128 = 128 := by rw [and128, show x.toNat / 128 = 1 by omega]; rfl
  have hand2 := and64 x hx
  obtain ⟨neg, hneg⟩ : ∃ neg, neg = negOf x := ⟨_, rfl⟩
  have HNEG := Lib.hid hneg
  have hfill : bits .and .u8 (x.toNat : Int) 64 = if neg then 64 else 0 := by
    rw [hand2, hneg]
    unfold negOf
    by_cases h : 192 ≤ x.toNat <;> simp [h]
  have k1 := hE.cell
  unfold errV at k1
  have f0 := hP.frozen 0
  have p0 : w.cell? ⟨P, 0, none⟩ = some .nilIface := by rw [hP.cell]; rfl
  clear hr hn hc hand2 hneg hE hP
  cases neg with
  | true =>
    rw [if_pos rfl] at hfill
    go_enter Tryd.func32, Tryd.ntmps32
    go_wp2
    clear hcell0 hand hfill h0n
    obtain ⟨L, hL⟩ : ∃ L, L = digs true x r := ⟨_, rfl⟩
    have HL := Lib.hid hL
    have HLN : Hid (L.length = n) := Lib.hid (by rw [hL, digs_len]; have := HN.out; simpa using this)
    clear hL
    go_loop [6, 26] (fun v6 v26 => ∃ k : Nat, k ≤ n ∧ v26 = .int .i64 k ∧ ∃ U : Nat, v6 = .int .u64 (U : Int) ∧ U < 18446744073709551616 ∧ Hid (U = bn 0 (L.take k))) (fun _ v26 => n - (intOf v26).toNat)
    case atStart => exact ⟨0, by omega, rfl, 0, rfl, by omega, Lib.hid (by simp [bn])⟩
    case round =>
      obtain ⟨k, hk, rfl, U, rfl, hUl, hU⟩ := hrel
      by_cases hlt : k < n
      · obtain ⟨y, hy1, hy2⟩ := byt_of' (bs := x :: r) (k := k) (by rw [HN.out]; exact hlt)
        have hcell := HC.out k (by rw [HN.out]; exact hlt)
        rw [hy2] at hcell
        have hxor : bits .xor .u8 (y.toNat : Int) 255 = ((msk true y : Nat) : Int) := xor_msk true y
        have y255 := y.toNat_lt
        have hmlt := msk_lt true y
        by_cases hk0 : k = 0
        · subst hk0
          obtain rfl : x = y := by simpa using hy1
          have hU0 : U = 0 := by rw [hU.out]; simp [bn]
          subst hU0
          have hd := and127 (msk true x) hmlt
          have HT : Hid (bn 0 (L.take 1) = msk true x % 128) := Lib.hid (by
            rw [bn_take (l := L) (k := 0) (d := msk true x % 128) (by rw [HL.out]; rfl)]
            simp [bn])
          obtain ⟨m, hm0⟩ : ∃ m, m = msk true x := ⟨_, rfl⟩
          rw [← hm0] at hxor hd HT hmlt
          obtain ⟨d, hd0⟩ : ∃ d, d = m % 128 := ⟨_, rfl⟩
          rw [← hd0] at hd HT
          have hdl : d < 128 := by omega
          have hor : bits .or .u64 0 (d : Int) = (d : Int) := by
            have := or_u64 0 d (by omega) (by omega)
            simpa using this
          clear hm0 hd0 hy1 hy2
          rw [Nat.add_zero] at hcell
          have h0n : (0 : Int) < (n : Int) := by omega
          go_wp2
          exact ⟨⟨1, by omega, rfl, d, rfl, by omega, Lib.hid HT.out.symm⟩, by simp [intOf]; omega⟩
        · have hk0' : ((k : Int) == 0) = false := by rw [beq_eq_false_iff_ne]; omega
          have HT : Hid (bn 0 (L.take (k + 1)) = U * 256 + msk true y) := Lib.hid (by rw [hU.out]; exact bn_take (by rw [HL.out]; exact digs_at hk0 hy1))
          obtain ⟨d, hd0⟩ : ∃ d, d = msk true y := ⟨_, rfl⟩
          rw [← hd0] at hxor HT hmlt
          clear hd0 hy1 hy2
          have hkn : (k : Int) < (n : Int) := by omega
          by_cases hbig : U < 72057594037927936
          · have hor := or_u64 U d (by omega) hmlt
            go_wp2
            exact ⟨⟨k + 1, by omega, by rw [Int.natCast_add]; rfl, U * 256 + d, by rw [Int.natCast_add, Int.natCast_mul]; rfl, by omega, Lib.hid HT.out.symm⟩, by simp [intOf]; omega⟩
          · have hbig' : (0 : Int) < (U : Int) / 72057594037927936 := by omega
            have HO : Hid (9223372036854775808 ≤ bn 0 L) := Lib.hid (bn_over (k := k) (by rw [HLN.out]; exact hlt) (by rw [← hU.out]; omega))
            go_wp2
            go_ret
            exact ⟨0, false, rfl, binR_no HNEG.out HL.out HO.out, ⟨(fun h => by cases h), fun _ => HP.out.set_ 0 (errV a)⟩, (Below.refl _ w).setCell hBP _⟩
      · obtain rfl : k = n := by omega
        have HE2 : Hid (U = bn 0 L) := Lib.hid (by rw [hU.out, List.take_of_length_le (by rw [HLN.out]; exact Nat.le_refl _)])
        by_cases hfin : U < 9223372036854775808
        · have hnot := i64_not U hfin
          go_wp2
          go_ret
          exact ⟨_, true, rfl, binR_yes HNEG.out HL.out HE2.out hfin (by rfl), ⟨fun _ => HP.out, fun h => by cases h⟩, Below.refl _ w⟩
        · have hbig' : (0 : Int) < (U : Int) / 9223372036854775808 := by omega
          have HO : Hid (9223372036854775808 ≤ bn 0 L) := Lib.hid (by rw [← HE2.out]; omega)
          go_wp2
          go_ret
          exact ⟨0, false, rfl, binR_no HNEG.out HL.out HO.out, ⟨(fun h => by cases h), fun _ => HP.out.set_ 0 (errV a)⟩, (Below.refl _ w).setCell hBP _⟩
  | false =>
    rw [if_neg Bool.false_ne_true] at hfill
    go_enter Tryd.func32, Tryd.ntmps32
    go_wp2
    clear hcell0 hand hfill h0n
    obtain ⟨L, hL⟩ : ∃ L, L = digs false x r := ⟨_, rfl⟩
    have HL := Lib.hid hL
    have HLN : Hid (L.length = n) := Lib.hid (by rw [hL, digs_len]; have := HN.out; simpa using this)
    clear hL
    go_loop [6, 26] (fun v6 v26 => ∃ k : Nat, k ≤ n ∧ v26 = .int .i64 k ∧ ∃ U : Nat, v6 = .int .u64 (U : Int) ∧ U < 18446744073709551616 ∧ Hid (U = bn 0 (L.take k))) (fun _ v26 => n - (intOf v26).toNat)
    case atStart => exact ⟨0, by omega, rfl, 0, rfl, by omega, Lib.hid (by simp [bn])⟩
    case round =>
      obtain ⟨k, hk, rfl, U, rfl, hUl, hU⟩ := hrel
      by_cases hlt : k < n
      · obtain ⟨y, hy1, hy2⟩ := byt_of' (bs := x :: r) (k := k) (by rw [HN.out]; exact hlt)
        have hcell := HC.out k (by rw [HN.out]; exact hlt)
        rw [hy2] at hcell
        have hxor : bits .xor .u8 (y.toNat : Int) 0 = ((msk false y : Nat) : Int) := xor_msk false y
        have y255 := y.toNat_lt
        have hmlt := msk_lt false y
        by_cases hk0 : k = 0
        · subst hk0
          obtain rfl : x = y := by simpa using hy1
          have hU0 : U = 0 := by rw [hU.out]; simp [bn]
          subst hU0
          have hd := and127 (msk false x) hmlt
          have HT : Hid (bn 0 (L.take 1) = msk false x % 128) := Lib.hid (by
            rw [bn_take (l := L) (k := 0) (d := msk false x % 128) (by rw [HL.out]; rfl)]
            simp [bn])
          obtain ⟨m, hm0⟩ : ∃ m, m = msk false x := ⟨_, rfl⟩
          rw [← hm0] at hxor hd HT hmlt
          obtain ⟨d, hd0⟩ : ∃ d, d = m % 128 := ⟨_, rfl⟩
          rw [← hd0] at hd HT
          have hdl : d < 128 := by omega
          have hor : bits .or .u64 0 (d : Int) = (d : Int) := by
            have := or_u64 0 d (by omega) (by omega)
            simpa using this
          clear hm0 hd0 hy1 hy2
          rw [Nat.add_zero] at hcell
          have h0n : (0 : Int) < (n : Int) := by omega
          go_wp2
          exact ⟨⟨1, by omega, rfl, d, rfl, by omega, Lib.hid HT.out.symm⟩, by simp [intOf]; omega⟩
        · have hk0' : ((k : Int) == 0) = false := by rw [beq_eq_false_iff_ne]; omega
          have HT : Hid (bn 0 (L.take (k + 1)) = U * 256 + msk false y) := Lib.hid (by rw [hU.out]; exact bn_take (by rw [HL.out]; exact digs_at hk0 hy1))
          obtain ⟨d, hd0⟩ : ∃ d, d = msk false y := ⟨_, rfl⟩
          rw [← hd0] at hxor HT hmlt
          clear hd0 hy1 hy2
          have hkn : (k : Int) < (n : Int) := by omega
          by_cases hbig : U < 72057594037927936
          · have hor := or_u64 U d (by omega) hmlt
            go_wp2
            exact ⟨⟨k + 1, by omega, by rw [Int.natCast_add]; rfl, U * 256 + d, by rw [Int.natCast_add, Int.natCast_mul]; rfl, by omega, Lib.hid HT.out.symm⟩, by simp [intOf]; omega⟩
          · have hbig' : (0 : Int) < (U : Int) / 72057594037927936 := by omega
            have HO : Hid (9223372036854775808 ≤ bn 0 L) := Lib.hid (bn_over (k := k) (by rw [HLN.out]; exact hlt) (by rw [← hU.out]; omega))
            go_wp2
            go_ret
            exact ⟨0, false, rfl, binR_no HNEG.out HL.out HO.out, ⟨(fun h => by cases h), fun _ => HP.out.set_ 0 (errV a)⟩, (Below.refl _ w).setCell hBP _⟩
      · obtain rfl : k = n := by omega
        have HE2 : Hid (U = bn 0 L) := Lib.hid (by rw [hU.out, List.take_of_length_le (by rw [HLN.out]; exact Nat.le_refl _)])
        by_cases hfin : U < 9223372036854775808
        · have hnot : True := trivial
          go_wp2
          go_ret
          exact ⟨_, true, rfl, binR_yes HNEG.out HL.out HE2.out hfin (by rfl), ⟨fun _ => HP.out, fun h => by cases h⟩, Below.refl _ w⟩
        · have hbig' : (0 : Int) < (U : Int) / 9223372036854775808 := by omega
          have HO : Hid (9223372036854775808 ≤ bn 0 L) := Lib.hid (by rw [← HE2.out]; omega)
          go_wp2
          go_ret
          exact ⟨0, false, rfl, binR_no HNEG.out HL.out HO.out, ⟨(fun h => by cases h), fun _ => HP.out.set_ 0 (errV a)⟩, (Below.refl _ w).setCell hBP _⟩
/-- What is read of a field. -/
def NumR (bs : List UInt8) (y : Int) (ok : Bool) : Prop := ((∀ x r, bs = x :: r → x.toNat < 128) ∧ OctR bs y ok) ∨ ∃ x r, bs = x :: r ∧ 128 ≤ x.toNat ∧ BinR x r y ok
def NumPP (bs : List UInt8) (w : World) (B P : Nat) (a : Addr) (e : Ending) (w' : World) : Prop := ∃ x ok, e = .returned (.int .i64 x) ∧ NumR bs x ok ∧ ParsAt w' P a ok ∧ Below B w w'
set_option maxHeartbeats 1600000 in
set_option maxRecDepth 20000 in
theorem parseNum_any {a a1 a2 : Addr} (A : Option Addr) (n c B P : Nat) (bs : List UInt8) (w : World) (hn : bs.length = n) (hr : RB w w.heap.size A bs) (hnc : n ≤ c) (hA : A = none → c = 0) (hm : n ≤ 70368744177664)
    (hP : Blk w P 41 [.nilIface]) (hBP : B ≤ P) (hBw : B ≤ w.heap.size) (hg : 0 ≠ P)
    (hE : Err w.heap.size w 0 a) (hE1 : Err w.heap.size w 2 a1) (hE2 : Err w.heap.size w 3 a2) :
    Calls Tryd.prog 32 #[.pointer (some ⟨P, 0, none⟩), .slice A n c] w (NumPP bs w B P a) := by
  cases bs with
  | nil =>
    obtain rfl : n = 0 := hn.symm
    have HO := Lib.hid (parseOctal_any A 0 c B P [] w hn hr hnc hA hm hP hBP hBw hg hE hE1 hE2)
    clear hn hr hA hP hE hE1 hE2
    go_enter Tryd.func32, Tryd.ntmps32
    go_wp2_with fail
    refine HO.out.mono ?_
    rintro e w1 ⟨y, ok, rfl, hR, hPa, hb⟩
    have HR := Lib.hid hR
    have HPa := Lib.hid hPa
    have HB := Lib.hid hb
    clear hR hPa hb
    go_wp2
    go_ret
    exact ⟨y, ok, rfl, .inl ⟨(fun x r h => by cases h), HR.out⟩, HPa.out, HB.out⟩
  | cons x r =>
    by_cases hx : 128 ≤ x.toNat
    · refine (parseBin A n c B P x r w hn hr hm hx hP hBP hBw hg hE).mono ?_
      rintro e w1 ⟨y, ok, rfl, hR, hPa, hb⟩
      exact ⟨y, ok, rfl, .inr ⟨x, r, rfl, hx, hR⟩, hPa, hb⟩
    · have HO := Lib.hid (parseOctal_any A n c B P (x :: r) w hn hr hnc hA hm hP hBP hBw hg hE hE1 hE2)
      obtain ⟨b, off, rfl, _, hc⟩ := hr (by simp)
      have hcell0 : w.cell? ⟨b, off, none⟩ = some (.int .u8 (x.toNat : Int)) := hc 0 (by simp)
      have h0n : (0 : Int) < (n : Int) := by have := hn; simp at this; omega
      have hx255 := x.toNat_lt
      have hand : bits .and .u8 (x.toNat : Int) 128 = 0 := by rw [and128, show x.toNat / 128 = 0 by omega]; rfl
      clear hn hr hA hP hE hE1 hE2 hc
      go_enter Tryd.func32, Tryd.ntmps32
      go_wp2_with fail
      refine HO.out.mono ?_
      rintro e w1 ⟨y, ok, rfl, hR, hPa, hb⟩
      have HR := Lib.hid hR
      have HPa := Lib.hid hPa
      have HB := Lib.hid hb
      clear hR hPa hb
      go_wp2
      go_ret
      refine ⟨y, ok, rfl, .inl ⟨fun x' r' h => ?_, HR.out⟩, HPa.out, HB.out⟩
      cases h
      omega

set_option maxHeartbeats 1600000 in
set_option maxRecDepth 20000 in
theorem zzNumber {a a1 a2 : Addr} (A : Option Addr) (n c B : Nat) (bs : List UInt8) (w : World) (hn : bs.length = n) (hr : RB w B A bs) (hB : B ≤ w.heap.size) (hm : n ≤ 2147483647)
    (hE : Err w.heap.size w 0 a) (hE1 : Err w.heap.size w 2 a1) (hE2 : Err w.heap.size w 3 a2) :
    Calls Tryd.prog 25 #[.slice A n c] w (NumP NumR bs w) := by
  have HN := Lib.hid hn
  have hz := zero_parser
  have HRA := Lib.hid (hr.alloc hB (.cells #[.nilIface] 41))
  have HB0 : Hid (Below w.heap.size w (w.alloc (.cells #[.nilIface] 41))) := Lib.hid ((Below.refl _ w).alloc (Nat.le_refl _) _)
  have HPN := Lib.hid (parser_new w)
  have HE := Lib.hid hE
  have HE1 := Lib.hid hE1
  have HE2 := Lib.hid hE2
  have hg : 0 ≠ w.heap.size := Nat.ne_of_lt hE.lg
  clear hn hr hE hE1 hE2
  go_enter Tryd.func25, Tryd.ntmps25
  go_wp2_with fail
  refine (clone_any A n c B bs _ HN.out HRA.out (by simp; omega) (by omega)).mono ?_
  rintro e w1 ⟨v, rfl, hown, hbel⟩
  obtain ⟨A', c', rfl, hcz, hnc, hblk⟩ := own_form hown
  have HRB := Lib.hid (RB.of_RC (RC.of_own hown))
  have HCZ := Lib.hid hcz
  have HB1 : Hid (Below w.heap.size w w1) := Lib.hid (HB0.out.trans (hbel.mono HB0.out.size))
  have HP1 := Lib.hid (HPN.out.below hbel HPN.out.lt)
  clear hown hblk hcz hbel
  go_wp2_with fail
  refine (parseNum_any A' n c' w.heap.size w.heap.size bs w1 HN.out HRB.out hnc HCZ.out (by omega) HP1.out (Nat.le_refl _) HB1.out.size hg (HE.out.more HB1.out) (HE1.out.more HB1.out) (HE2.out.more HB1.out)).mono ?_
  rintro e w2 ⟨x, ok, rfl, hR, hPa, hb2⟩
  have HR := Lib.hid hR
  have HB2 : Hid (Below w.heap.size w w2) := Lib.hid (HB1.out.trans hb2)
  clear hR hb2
  cases ok with
  | true =>
    have HPa := Lib.hid (hPa.1 rfl)
    clear hPa
    have p0 : w2.cell? ⟨w.heap.size, 0, none⟩ = some .nilIface := by rw [HPa.out.cell]; rfl
    have hneq := fun w => run_eql_nil_nil_at (P := Tryd.prog) (w := w) 39 isErr
    go_wp2
    go_region_held3 (fun w' => w'.cell? ⟨w.heap.size, 0, none⟩ = some .nilIface) (go_keep) (fail)
    go_wp2
    go_ret2
    exact ⟨x, true, rfl, HR.out, HB2.out.drew⟩
  | false =>
    have HPa := Lib.hid (hPa.2 rfl)
    clear hPa
    have p0 : w2.cell? ⟨w.heap.size, 0, none⟩ = some (.iface 115 (.pointer (some a))) := by rw [HPa.out.cell]; rfl
    have hneq := fun w x => run_eql_iface_nil (P := Tryd.prog) (w := w) 39 isErr 115 x
    go_wp2
    go_region_held3 (fun w' => w'.cell? ⟨w.heap.size, 0, none⟩ = some (.iface 115 (.pointer (some a)))) (go_keep) (fail)
    go_wp2
    go_ret2
    exact ⟨x, false, rfl, HR.out, HB2.out.drew⟩
set_option maxHeartbeats 800000 in
set_option maxRecDepth 20000 in
theorem implNumber {a a1 a2 : Addr} (A : Option Addr) (n c B : Nat) (bs : List UInt8) (w : World) (hn : bs.length = n) (hr : RB w B A bs) (hB : B ≤ w.heap.size) (hm : n ≤ 2147483647)
    (hE : Err w.heap.size w 0 a) (hE1 : Err w.heap.size w 2 a1) (hE2 : Err w.heap.size w 3 a2) :
    Calls Tryd.prog 16 #[.slice A n c] w (NumP NumR bs w) := by
  have HZ := Lib.hid (zzNumber A n c B bs w hn hr hB hm hE hE1 hE2)
  clear hn hr hE hE1 hE2
  go_enter Tryd.func16, Tryd.ntmps16
  go_wp2_with fail
  refine HZ.out.mono ?_
  rintro e w1 ⟨x, ok, rfl, hR, hb⟩
  have HR := Lib.hid hR
  have HB := Lib.hid hb
  clear hR hb
  go_wp2
  go_ret2
  exact ⟨x, ok, rfl, HR.out, HB.out⟩
end Go.Proofs.YtagjbndcbcepcaaDoor
