/- FnSparseRead: the law's own walk. -/
import Derived.Test.YtiahifohkhdmdaaDoorSpLaw
namespace Go.Proofs.YtiahifohkhdmdaaDoor
open Go.RowKit Go.PlainAid
set_option linter.unusedVariables false

theorem gen_pos {ps : List (Int × Int)} {sz all : Int} (h : Gen ps sz all) : ∀ j, j < ps.length → ve ps j ≤ po ps j ∧ 1 ≤ pl ps j := fun j hj => by
  have := h.ok j hj
  unfold okG at this
  exact ⟨this.1, this.2.2.1⟩
theorem lenQ_suml (ps : List (Int × Int)) (h : ∀ j, j < ps.length → 1 ≤ pl ps j) : ∀ k, k ≤ ps.length → ((lenQ (ps.take k) : Nat) : Int) = suml ps k
  | 0, _ => by simp [lenQ, suml]
  | k + 1, hk => by
    have ih := lenQ_suml ps h k (by omega)
    have h1 := h k (by omega)
    rw [lenQ_take ps k (by omega)]
    simp only [suml]
    omega
theorem set_byte (bs : List UInt8) (k : Nat) (x : Int) (h0 : 0 ≤ x) (h1 : x ≤ 255) : ∃ bs' : List UInt8, bs'.length = bs.length ∧ (bys bs).set k (.int .u8 x) = bys bs' := by
  refine ⟨bs.set k (UInt8.ofNat x.toNat), by simp, ?_⟩
  unfold bys
  rw [List.map_set]
  congr 2
  have : (UInt8.ofNat x.toNat).toNat = x.toNat := by simp; omega
  rw [this]
  omega

/-- The first k calls, reduced; their sum. -/
def redc (ks : List Int) (k : Nat) : List Int := (ks.take k).map (· % 4096)
def rsum (ks : List Int) : Nat → Int
  | 0 => 0
  | k + 1 => rsum ks k + nv ks k % 4096
theorem rsum_bd (ks : List Int) : ∀ k, 0 ≤ rsum ks k ∧ rsum ks k ≤ 4096 * k
  | 0 => ⟨Int.le_refl _, Int.le_refl _⟩
  | k + 1 => by
    have ih := rsum_bd ks k
    have e1 := Int.emod_nonneg (nv ks k) (show (4096 : Int) ≠ 0 by omega)
    have e2 := Int.emod_lt_of_pos (nv ks k) (show (0 : Int) < 4096 by omega)
    simp only [rsum]
    omega
theorem redc_len (ks : List Int) (k : Nat) (h : k ≤ ks.length) : (redc ks k).length = k := by simp [redc]; omega
theorem redc_get (ks : List Int) (k j : Nat) (hj : j < k) (h : k ≤ ks.length) : nv (redc ks k) j = nv ks j % 4096 := by
  simp [nv, redc, List.getD, hj, show j < ks.length by omega]
theorem redc_succ (ks : List Int) (k : Nat) (h : k < ks.length) : nums (redc ks (k + 1)) = nums (redc ks k) ++ [.int .i64 (nv ks k % 4096)] := by
  have e : nv ks k = ks[k] := by simp [nv, List.getD, h]
  unfold redc nums
  rw [List.take_succ_eq_append_getElem h, e]
  simp only [List.map_append, List.map_cons, List.map_nil]
/-- The sizes of all calls: the first kn, and q more. -/
def szs (ks : List Int) (kn S q : Nat) : List Int := redc ks kn ++ List.replicate q ((S : Int) + 1)
theorem szs_len (ks : List Int) (kn S q : Nat) (h : kn ≤ ks.length) : (szs ks kn S q).length = kn + q := by simp [szs, redc_len ks kn h]
theorem szs_succ (ks : List Int) (kn S q : Nat) : nums (szs ks kn S (q + 1)) = nums (szs ks kn S q) ++ [.int .i64 ((S : Int) + 1)] := by
  unfold szs nums
  rw [List.replicate_succ']
  simp only [← List.append_assoc, List.map_append, List.map_cons, List.map_nil]
theorem szs_lo (ks : List Int) (kn S q j : Nat) (h : kn ≤ ks.length) (hj : j < kn) : nv (szs ks kn S q) j = nv ks j % 4096 := by
  have h1 := redc_get ks kn j hj h
  have h2 := redc_len ks kn h
  unfold nv szs at *
  rw [List.getD_eq_getElem?_getD, List.getElem?_append_left (by omega), ← List.getD_eq_getElem?_getD]
  exact h1
theorem szs_hi (ks : List Int) (kn S q j : Nat) (h : kn ≤ ks.length) (hj : kn ≤ j) (hq : j < kn + q) : nv (szs ks kn S q) j = (S : Int) + 1 := by
  have h2 := redc_len ks kn h
  unfold nv szs
  rw [List.getD_eq_getElem?_getD, List.getElem?_append_right (by omega), List.getElem?_replicate, if_pos (by omega)]
  rfl
theorem szs_bd (ks : List Int) (kn S q : Nat) (h : kn ≤ ks.length) (hS : S ≤ 1000000) : ∀ i, i < kn + q → 0 ≤ nv (szs ks kn S q) i ∧ nv (szs ks kn S q) i ≤ 1073741824 := fun i hi => by
  by_cases hlt : i < kn
  · rw [szs_lo ks kn S q i h hlt]
    omega
  · rw [szs_hi ks kn S q i h (by omega) hi]
    omega
theorem szs_zero (ks : List Int) (kn S : Nat) : szs ks kn S 0 = redc ks kn := by simp [szs]

theorem rdN_rsum (S : Nat) (ks : List Int) (kn : Nat) (h : kn ≤ ks.length) : ∀ k, k ≤ kn → (rdN S (redc ks kn) k : Int) ≤ rsum ks k
  | 0, _ => Int.le_refl _
  | k + 1, hk => by
    have ih := rdN_rsum S ks kn h k (by omega)
    have e := redc_get ks kn k (by omega) h
    have e1 := Int.emod_nonneg (nv ks k) (show (4096 : Int) ≠ 0 by omega)
    simp only [rdN, rsum, e]
    omega
theorem RC.pre {w : World} {B : Nat} {A : Option Addr} {xs ys : List Value} (h : RC w B A (xs ++ ys)) : RC w B A xs := fun hn => by
  obtain ⟨b, off, e, hb, hc⟩ := h (by rw [List.length_append]; omega)
  exact ⟨b, off, e, hb, fun i v hi => hc i v (by rw [List.getElem?_append_left (List.getElem?_eq_some_iff.1 hi).1]; exact hi)⟩
theorem rdN_mono (S : Nat) (ns : List Int) (k : Nat) : rdN S ns k ≤ rdN S ns (k + 1) := by simp only [rdN]; omega
theorem rdN_full {S k : Nat} {ns : List Int} (h : nv ns (k - 1) = (S : Int) + 1) (hk : 0 < k) : rdN S ns k = S := by
  obtain ⟨m, rfl⟩ : ∃ m, k = m + 1 := ⟨k - 1, by omega⟩
  rw [show m + 1 - 1 = m by omega] at h
  have h1 := rdN_le S ns m
  simp only [rdN, h]
  omega
theorem rdE_last {S k : Nat} {ns : List Int} (h : nv ns k = (S : Int) + 1) : rdE S ns k = true := by
  unfold rdE
  rw [h]
  simp
  omega
theorem rc_rdV {w : World} {B S k : Nat} {A : Option Addr} {ns : List Int} (h : RC w B A (rdV S ns (k + 1))) : ∃ b off, A = some ⟨b, off, none⟩ ∧ b < B ∧ ∀ i, i < k + 1 → w.cell? ⟨b, off + i, none⟩ = some (.int .i64 (eofI (rdE S ns i))) := by
  obtain ⟨b, off, e, hb, hc⟩ := h (by simp [rdV])
  exact ⟨b, off, e, hb, fun i hi => hc i _ (by simp [rdV, hi])⟩

set_option maxRecDepth 20000 in
set_option maxHeartbeats 4000000 in
theorem fnSparseRead_walk (A Ac : Option Addr) (n c kn cc : Nat) (ns ks : List Int) (a : Addr) (w : World) (hn : ns.length = n) (hr : RC w w.heap.size A (nums ns)) (hsm : Small ns) (hkn : ks.length = kn) (hrc : RC w w.heap.size Ac (nums ks)) (hsk : Small ks)
    (hm1 : n ≤ 9223372036854775807) (hm2 : kn ≤ 9223372036854775807) (hE : Err w.heap.size w 2 a) :
    Calls Tryd.prog 5 #[.slice A n c, .slice Ac kn cc] w fun e w' => e = .returned (.bool true) ∧ Below w.heap.size w w' := by
  by_cases hbig : 2147483647 < n
  · clear hn hr hsm hkn hrc hsk hE
    go_enter Tryd.func5, Tryd.ntmps5
    go_wp2
    go_ret
    exact ⟨rfl, Below.refl _ _⟩
  by_cases hbig2 : 2147483647 < kn
  · clear hn hr hsm hkn hrc hsk hE
    go_enter Tryd.func5, Tryd.ntmps5
    go_wp2
    go_ret
    exact ⟨rfl, Below.refl _ _⟩
  have HN := Lib.hid hn
  have HKN := Lib.hid hkn
  have HRC := Lib.hid hrc
  have HSK := Lib.hid hsk
  have HE := Lib.hid hE
  have HGEN := Lib.hid (pieces_any A n c w.heap.size ns w hn hr (Nat.le_refl _) (by omega) hsm)
  clear hn hr hsm hkn hrc hsk hE
  go_enter Tryd.func5, Tryd.ntmps5
  go_wp2_with fail
  refine HGEN.out.mono ?_
  rintro e w1 ⟨ps, sz, all, v, rfl, hgen, hown, hb1⟩
  obtain ⟨Al, cl, rfl, _, _, _⟩ := own_form hown
  obtain ⟨pn, hpn⟩ : ∃ pn, ps.length = pn := ⟨_, rfl⟩
  have hall0 : suml ps ps.length = all := hgen.all_.symm
  have hlq := lenQ_suml ps (fun j hj => (gen_pos hgen j hj).2) ps.length (Nat.le_refl _)
  rw [List.take_length, hall0] at hlq
  obtain ⟨al, hal⟩ : ∃ al : Nat, all = (al : Int) := ⟨all.toNat, by omega⟩
  have hve := ve_range (gen_pos hgen) hgen.lo
  have hsz0 := (hve 0 (Nat.zero_le _)).2
  have hve0 : ve ps 0 = 0 := rfl
  obtain ⟨S, hS⟩ : ∃ S : Nat, sz = (S : Int) := ⟨sz.toNat, by omega⟩
  subst hal hS
  have hpl := hgen.len
  have hS2 : S ≤ 131271 := by have := hgen.hi; have := hgen.end_; omega
  have hal2 : al ≤ 65536 := by have := hgen.small; omega
  have HQ : Hid (okQ S 0 ps) := Lib.hid (by
    have := okQ_of S ps (gen_pos hgen) hgen.lo ps.length 0 (by omega)
    simpa [ve] using this)
  have HGP := Lib.hid (gen_pos hgen)
  have HLO := Lib.hid hgen.lo
  have HLQ : Hid (lenQ ps = al) := Lib.hid (by omega)
  rw [hpn] at hpl hown
  have HPN := Lib.hid hpn
  have HL := Lib.hid (RC.of_own hown)
  have HB1 := Lib.hid hb1
  have hw1 := hb1.size
  rw [hpn]
  clear hgen hall0 hlq hve hsz0 hve0 hpn hown hb1 HGEN
  go_wp2_with (refine wpList_make_blk _ (o := ⟨some 36, _, _, _, _, _⟩) rfl _ _ _ rfl 5 _ 1 Tryd.underlying23 u8info rfl _ _ al al al rfl rfl rfl rfl (by omega) (by omega) ?_)
  intro w2 hb2 hg2 hz2
  rw [← bys_zbs] at hb2
  have HD2 : Hid (∃ D : List UInt8, D.length = al ∧ Blk w2 w1.heap.size 5 (bys D)) := Lib.hid ⟨zbs al, length_zbs al, hb2.out⟩
  have HB2 := Lib.hid (grownBy_below hg2 (Nat.le_refl _) (fun k hk => by cases hk))
  clear hb2 hg2
  go_wp2_with fail
  go_loopw [39] (fun i wr => ∃ (k : Nat) (D : List UInt8), k ≤ al ∧ i = .int .i64 k ∧ Hid (D.length = al) ∧ Blk wr w1.heap.size 5 (bys D) ∧ Below w1.heap.size w1 wr) (fun i _ => al - (intOf i).toNat)
  case atStart =>
    obtain ⟨D, h1, h2⟩ := HD2.out
    exact ⟨0, D, by omega, rfl, h1, h2, HB2.out⟩
  case round =>
    obtain ⟨k, D, hk, rfl, hD, hg, hb⟩ := hrel
    have HG := Lib.hid hg
    by_cases hlt : k < al
    · have hcell : wr.cell? ⟨w1.heap.size, k, none⟩ = some (.int .u8 (byt D k)) := by rw [hg.cell, bys_get D k (by rw [hD.out]; exact hlt)]
      have hfr := hg.frozen k
      have HBB := Lib.hid hb
      have HNX : Hid (∃ D' : List UInt8, D'.length = al ∧ Blk (wr.setCell ⟨w1.heap.size, k, none⟩ (.int .u8 (((k : Int) * 5 + 1) % 256))) w1.heap.size 5 (bys D')) := Lib.hid (by
        obtain ⟨D', e1, e2⟩ := set_byte D k (((k : Int) * 5 + 1) % 256) (by omega) (by omega)
        refine ⟨D', e1.trans hD.out, ?_⟩
        rw [← e2]
        exact hg.set_ k _)
      clear hg hb
      go_wp2
      go_roundw
      case rel =>
        obtain ⟨D', e1, e2⟩ := HNX.out
        exact ⟨k + 1, D', by omega, by go_num, e1, e2, HBB.out.setCell (p := ⟨w1.heap.size, k, none⟩) (Nat.le_refl _) _⟩
      case measure => simp [intOf]; omega
    · obtain rfl : k = al := by omega
      have HBB := Lib.hid hb
      have hw3 := hb.size
      clear hg hb
      go_wp2_with fail
      refine (specExpand Al (some ⟨w1.heap.size, 0, none⟩) pn cl k k S ps D wr HPN.out ((HL.out.below HBB.out).more hw3) hD.out ((RB.of_blk HG.out).more HG.out.lt) (Nat.le_refl _) HLQ.out (by omega) HGP.out HLO.out (by omega) (by omega)).mono ?_
      rintro e w4 ⟨rfl, hx4, hb4⟩
      have HX := Lib.hid hx4
      have HD4 := Lib.hid (HG.out.below hb4 HG.out.lt)
      have HL4 := Lib.hid (((HL.out.below HBB.out).more hw3).below hb4)
      have HB4 := Lib.hid (HB1.out.trans ((HBB.out.mono hw1).trans (hb4.mono (by omega))))
      have hw4 := hb4.size
      have hG4 := hx4.lt
      have hg4 : w1.heap.size < wr.heap.size := HG.out.lt
      obtain ⟨G, hG⟩ : ∃ G, wr.heap.size = G := ⟨_, rfl⟩
      obtain ⟨g, hgg⟩ : ∃ g, w1.heap.size = g := ⟨_, rfl⟩
      rw [hG] at HX hG4 hg4 hw4 HL4
      rw [hgg] at HD4 hg4
      rw [hG, hgg]
      have HDL := Lib.hid hD.out
      clear hx4 hb4 HG HBB HL HB1 hG hgg hw3 hD HD2 HB2
      go_wp2_with fail
      go_loopw [11, 12, 56] (fun sum v i wr => ∃ j : Nat, j ≤ kn ∧ i = .int .i64 j ∧ sum = .int .i64 (rsum ks j) ∧ wr.ownsRow w4.heap.size 3 1 v j (nums (redc ks j)) ∧ Below w4.heap.size w4 wr) (fun _ _ i _ => kn - (intOf i).toNat)
      case atStart => exact ⟨0, by omega, rfl, rfl, World.ownsRow_nil _ _ _ _, Below.refl _ _⟩
      case round =>
        obtain ⟨j, hj, rfl, rfl, hown, hb⟩ := hrel
        have HO := Lib.hid hown
        have HBW := Lib.hid hb
        obtain ⟨u1, u2⟩ := rsum_bd ks j
        by_cases hlt : j < kn
        · obtain ⟨bc, oc, rfl, hbc, hcell⟩ := ((HRC.out.below HB4.out).below (hb.mono HB4.out.size)).num (k := j) (by rw [HKN.out]; exact hlt)
          have hc0 := hcell j (by rw [HKN.out]; exact hlt)
          obtain ⟨s1, s2⟩ := HSK.out j
          have e1 := Int.emod_nonneg (nv ks j) (show (4096 : Int) ≠ 0 by omega)
          have e2 := Int.emod_lt_of_pos (nv ks j) (show (0 : Int) < 4096 by omega)
          have HRS : Hid (rsum ks (j + 1) = rsum ks j + nv ks j % 4096) := Lib.hid rfl
          have HRD : Hid (nums (redc ks (j + 1)) = nums (redc ks j) ++ [.int .i64 (nv ks j % 4096)]) := Lib.hid (redc_succ ks j (by rw [HKN.out]; exact hlt))
          have hw5 := hb.size
          clear hown hb hcell
          go_wp2_with (first
            | (go_at_call 6; refine (below_any (nv ks j) 4096 _ (by omega) (by omega) (by omega) (by omega)).mono ?_; rintro e w' ⟨rfl, rfl⟩)
            | (at_builtin; refine wpList_append_one (o := ⟨some 68, _, _, _, _, _⟩) rfl (.tmp 65) (.tmp 67) _ rfl w4.heap.size 3 _ 8 Tryd.underlying32 intinfo' rfl _ j (nums (redc ks j)) rfl (HO.out.alloc _) rfl rfl (by omega) (by omega) hw5 ?_))
          intro v' w6 q1 q2 q3
          have HO6 : Hid (w6.ownsRow w4.heap.size 3 1 v' (j + 1) (nums (redc ks (j + 1)))) := Lib.hid (by rw [HRD.out]; exact q1.out)
          have HB6 := Lib.hid ((HBW.out.alloc (o := .cells #[.int .i64 (nv ks j % 4096)] 3) hw5).grown q2.out (by simp; omega) (fun k hk => (HO.out.lt k hk).1))
          clear q1 q2 q3
          go_wp2
          go_roundw
          case rel => exact ⟨j + 1, by omega, by go_num, by rw [HRS.out], HO6.out, HB6.out⟩
          case measure => simp [intOf]; omega
        · obtain rfl : j = kn := by omega
          have HL5 := Lib.hid ((HL4.out.more hw4).below hb)
          have HX5 := Lib.hid (HX.out.below hb hG4)
          have HD5 := Lib.hid (HD4.out.below hb (by omega))
          have HB5 := Lib.hid (HB4.out.trans (hb.mono HB4.out.size))
          have hw5 := hb.size
          clear hown hb
          go_wp2_with fail
          go_loopw [12, 74] (fun v i wr => ∃ q : Nat, q ≤ 2 * pn + 3 ∧ i = .int .i64 q ∧ wr.ownsRow w4.heap.size 3 1 v (j + q) (nums (szs ks j S q)) ∧ Below w4.heap.size w4 wr) (fun _ i _ => 2 * pn + 3 - (intOf i).toNat)
          case atStart => exact ⟨0, by omega, rfl, by rw [szs_zero]; exact HO.out, HBW.out⟩
          case round =>
            obtain ⟨q, hq, rfl, hown, hb⟩ := hrel
            have HO2 := Lib.hid hown
            have HBW2 := Lib.hid hb
            by_cases hlt : q < 2 * pn + 3
            · have hltI : (q : Int) < 2 * (pn : Int) + 3 := by omega
              have hw7 := hb.size
              have HSS : Hid (nums (szs ks j S (q + 1)) = nums (szs ks j S q) ++ [.int .i64 ((S : Int) + 1)]) := Lib.hid (szs_succ ks j S q)
              clear hown hb
              go_wp2_with (at_builtin; refine wpList_append_one (o := ⟨some 80, _, _, _, _, _⟩) rfl (.tmp 76) (.tmp 79) _ rfl w4.heap.size 3 _ 8 Tryd.underlying32 intinfo' rfl _ (j + q) (nums (szs ks j S q)) rfl (HO2.out.alloc _) rfl rfl (by omega) (by omega) hw7 ?_)
              intro v' w8 q1 q2 q3
              have HO6 : Hid (w8.ownsRow w4.heap.size 3 1 v' (j + (q + 1)) (nums (szs ks j S (q + 1)))) := Lib.hid (by rw [HSS.out]; exact q1.out)
              have HB6 := Lib.hid ((HBW2.out.alloc (o := .cells #[.int .i64 ((S : Int) + 1)] 3) hw7).grown q2.out (by simp; omega) (fun k hk => (HO2.out.lt k hk).1))
              clear q1 q2 q3
              go_wp2
              go_roundw
              case rel => exact ⟨q + 1, by omega, by go_num, HO6.out, HB6.out⟩
              case measure => simp [intOf]; omega
            · obtain ⟨K, hK⟩ : ∃ K, 2 * pn + 3 = K := ⟨_, rfl⟩
              obtain rfl : q = K := by omega
              obtain ⟨Az, cz, rfl, _, hcz0, _⟩ := own_form hown
              have HL6 := Lib.hid ((HL4.out.more hw4).below hb)
              have HX6 := Lib.hid (HX.out.below hb hG4)
              have HD6 := Lib.hid (HD4.out.below hb (by omega))
              have HB6 := Lib.hid (HB4.out.trans (hb.mono HB4.out.size))
              have HZ6 := Lib.hid (RC.of_own hown)
              have hw7 := hb.size
              have HKK := Lib.hid hK
              clear hown hb HL5 HX5 HD5 HB5 HO HBW HL4 HX HD4 HO2 HBW2 hK
              have hKI : ¬ ((q : Int) < 2 * (pn : Int) + 3) := by have := HKK.out; omega
              obtain ⟨hh, hT, hok0⟩ := SpOk.start (D := D) (hol_ne S ps 0) (okH_hol S ps 0 HQ.out) (by rw [HDL.out, dlen_hol S ps 0 HQ.out, HLQ.out]) (by rw [hend_hol]; omega)
              have HOK := Lib.hid hok0
              have HSTR : Hid (strm 0 (hol S ps 0) D = expd S ps 0 D) := Lib.hid (strm_hol S ps 0 D HQ.out)
              have hsl : ((strm 0 (hol S ps 0) D).length : Int) = S := by rw [hok0.len, hend_hol]; omega
              have hsl2 : (strm 0 (hol S ps 0) D).length = S := by omega
              have HSL := Lib.hid hsl2
              have HXL : Hid ((expd S ps 0 D).length = S) := Lib.hid (by rw [← HSTR.out]; exact hsl2)
              have hhl : (hol S ps 0).length ≤ 101 := by have := hol_len S ps 0; have := HPN.out; omega
              obtain ⟨hm, hhm⟩ : ∃ hm, (hol S ps 0).length = hm := ⟨_, rfl⟩
              have HHM := Lib.hid hhm
              rw [hhm] at hhl
              clear hok0 hsl hsl2
              have HHO := fun (w' : World) (h1 : RC w' w4.heap.size Al (pcs ps)) (h2 : w4.heap.size ≤ w'.heap.size) => specHoles Al pn cl w4.heap.size ps S w' HPN.out h1 h2 (by omega) HGP.out HLO.out (by omega)
              rw [hhm] at HHO
              have HHH := Lib.hid HHO
              clear HHO hhm
              go_wp2_with fail
              refine (HHH.out _ HL6.out hw7).mono ?_
              rintro e w8 ⟨v8, rfl, hown8, hb8⟩
              obtain ⟨A8, c8, rfl, _, _, _⟩ := own_form hown8
              have HR8 := Lib.hid (RC.of_own hown8)
              have HB8 := Lib.hid hb8
              have hw8 := hb8.size
              clear hown8 hb8
              go_wp2_with fail
              refine (pieceList_any A8 hm c8 w8.heap.size (hol S ps 0) w8 HHM.out HR8.out (Nat.le_refl _) (by omega)).mono ?_
              rintro e w9 ⟨v9, rfl, hown9, hb9⟩
              obtain ⟨A9, c9, rfl, _, _, _⟩ := own_form hown9
              have HR9 := Lib.hid (RC.of_own hown9)
              have HB9 := Lib.hid (HB8.out.trans (hb9.mono hw8))
              have hw9 := hb9.size
              clear hown9 hb9 HR8 HB8
              have HCL : Hid (∀ i, i < j + q → 0 ≤ nv (szs ks j S q) i ∧ nv (szs ks j S q) i ≤ 1073741824) := Lib.hid (szs_bd ks j S q (by rw [HKN.out]; exact Nat.le_refl _) (by omega))
              go_wp2_with fail
              refine (implSparseRead (some ⟨g, 0, none⟩) A9 Az k k hm c9 (j + q) cz D (hol S ps 0) hh hT (szs ks j S q) a w9 HDL.out ((RB.of_blk (HD6.out.below HB9.out (by omega))).more (by omega)) HHM.out HR9.out HOK.out (szs_len ks j S q (by rw [HKN.out]; exact Nat.le_refl _)) ((HZ6.out.below HB9.out).more (by omega)) HCL.out (by omega) (by omega) ((HE.out.more HB6.out).more (HB9.out.mono (Nat.le_refl _)))).mono ?_
              rintro e w10 ⟨out, ends, rfl, o1, o2, o3⟩
              rw [HSL.out] at o1 o2
              have hkk := HKK.out
              rw [rdN_full (k := j + q) (szs_hi ks j S q (j + q - 1) (by rw [HKN.out]; exact Nat.le_refl _) (by omega) (by omega)) (by omega), List.take_of_length_le (by rw [HSL.out]; exact Nat.le_refl _), HSTR.out] at o1
              obtain ⟨Ao, co, rfl, _, _, _⟩ := own_form o1
              obtain ⟨Ae, ce, rfl, _, _, _⟩ := own_form o2
              have HO1 := Lib.hid (RB.of_RC (RC.of_own o1))
              have HO2 := Lib.hid (RC.of_own o2)
              have HB10 := Lib.hid (HB9.out.trans (o3.mono (by omega)))
              have hw10 := o3.size
              have HX10 := Lib.hid ((HX6.out.below HB9.out (by omega)).below o3 (by omega))
              obtain ⟨M, hM⟩ : ∃ M, j + q = M + 1 := ⟨j + q - 1, by omega⟩
              rw [hM] at HO2
              rw [hM]
              have HMM := Lib.hid hM
              obtain ⟨be, oe, rfl, hbe, hce⟩ := rc_rdV HO2.out
              have hcM := hce M (by omega)
              rw [rdE_last (k := M) (szs_hi ks j S q M (by rw [HKN.out]; exact Nat.le_refl _) (by omega) (by omega))] at hcM
              have HCE := Lib.hid hce
              have hm0 : (0 : Int) ≤ (M : Int) := by omega
              have hm2 : M ≤ 4294967296 := by omega
              clear o1 o2 o3 hkk hM hce
              go_wp2_with (go_at_call 9; refine (same_yes Ao (some ⟨G, 0, none⟩) S co S w10.heap.size (G + 1) (expd S ps 0 D) w10 HXL.out HO1.out (RB.of_blk HX10.out)).mono ?_; rintro e w' ⟨rfl, rfl⟩)
              clear hcM
              go_loop [114] (fun i => ∃ i' : Nat, i' ≤ M + 1 ∧ i = .int .i64 i') (fun i => M + 1 - (intOf i).toNat)
              case atStart => exact ⟨0, by omega, rfl⟩
              case round =>
                obtain ⟨i, hi, rfl⟩ := hrel
                by_cases hlt : i < M + 1
                · have hci := HCE.out i hlt
                  have hltI : (i : Int) < (M : Int) + 1 := by omega
                  cases hb : rdE S (szs ks j S q) i
                  all_goals
                    rw [hb] at hci
                    unfold eofI at hci
                    clear hb
                    go_wp2
                    go_round
                    case rel => exact ⟨i + 1, by omega, by go_num⟩
                    case measure => simp [intOf]; omega
                · obtain rfl : i = M + 1 := by omega
                  have HRD6 := Lib.hid (RB.of_blk ((HD6.out.below HB9.out (by omega))))
                  have hjkn : j ≤ ks.length := by rw [HKN.out]; exact Nat.le_refl _
                  have HL10 := Lib.hid (HL6.out.below (HB10.out.mono hw7))
                  have hsz10 : w4.heap.size ≤ w10.heap.size := Nat.le_trans hw7 HB10.out.size
                  have HZR : Hid (RC w10 w10.heap.size Az (nums (redc ks j))) := Lib.hid (by
                    have h1 := (HZ6.out.below HB10.out).more HB10.out.size
                    unfold szs nums at h1
                    rw [List.map_append] at h1
                    exact RC.pre h1)
                  have hgw : g < w10.heap.size := by have := HB10.out.size; omega
                  have HFIN : Hid (∀ (A' : Option Addr) (c' : Nat) (w' : World), RC w' w'.heap.size A' (pcs (hol S ps 0)) → Below w10.heap.size w10 w' → Calls Tryd.prog 16 #[.slice (some ⟨g, 0, none⟩) k k, .slice A' hm c', .slice Az j cz] w' (SpOut (strm 0 (hol S ps 0) D) (redc ks j) j w')) := by
                    show ∀ A' c' w', _
                    intro A' c' w' h1 h2
                    have hw' := h2.size
                    refine implSparseRead (some ⟨g, 0, none⟩) A' Az k k hm c' j cz D (hol S ps 0) hh hT (redc ks j) a w' HDL.out ((RB.of_blk (((HD6.out.below HB10.out (by omega)).below h2 hgw))).more (by omega)) HHM.out h1 HOK.out (redc_len ks j hjkn) ((HZR.out.below h2).more hw') (fun i hi => ?_) (by omega) (by omega) (((HE.out.more HB6.out).more HB10.out).more h2)
                    rw [redc_get ks j i hi hjkn]
                    omega
                  have hcz : (j : Int) ≤ (cz : Int) := by omega
                  clear HCE
                  go_wp2_with fail
                  go_region_held3 (fun _ => True) (trivial)
                    ((first
                      | (go_at_call 18; refine (HHH.out _ (by exact HL10.out) (by exact hsz10)).mono ?_; rintro e w11 ⟨v11, rfl, hown11, hb11⟩; obtain ⟨A11, c11, rfl, _, _, _⟩ := own_form hown11)
                      | (go_at_call 17; refine (pieceList_any A11 hm c11 w11.heap.size (hol S ps 0) w11 HHM.out (RC.of_own hown11) (Nat.le_refl _) (by omega)).mono ?_; rintro e w12 ⟨v12, rfl, hown12, hb12⟩; obtain ⟨A12, c12, rfl, _, _, _⟩ := own_form hown12)
                      | (go_at_call 16; refine (HFIN.out A12 c12 w12 (RC.of_own hown12) (((Below.refl _ w10).drew.trans hb11).trans (hb12.mono hb11.size))).mono ?_; rintro e w13 ⟨out2, ends2, rfl, p1, p2, p3⟩)))
                  obtain ⟨A13, c13, rfl, _, _, _⟩ := own_form p1
                  rw [HSL.out] at p1
                  have hrs := rdN_rsum S ks j hjkn j (Nat.le_refl _)
                  have hrS := rdN_le S (redc ks j) j
                  rw [HSL.out]
                  obtain ⟨r, hr⟩ : ∃ r, rdN S (redc ks j) j = r := ⟨_, rfl⟩
                  rw [hr] at p1 hrs hrS
                  rw [hr]
                  have HR13 := Lib.hid (RB.of_RC (RC.of_own p1))
                  have hb12' := ((Below.refl w10.heap.size w10).drew.trans hb11).trans (hb12.mono hb11.size)
                  have hb13 := hb12'.trans (p3.mono hb12'.size)
                  have HX13 := Lib.hid (HX10.out.below hb13 (by have := HB10.out.size; omega))
                  have HBE := Lib.hid (HB6.out.trans ((HB10.out.trans (hb13.mono HB10.out.size)).mono HB6.out.size))
                  have HLR : Hid (((expd S ps 0 D).take r).length = r) := Lib.hid (by rw [List.length_take, HXL.out]; omega)
                  rw [HSTR.out] at HR13
                  have hrSI : (r : Int) ≤ (S : Int) := by omega
                  clear p1 p2 p3 hown11 hb11 hown12 hb12 hb12' hb13 hr
                  go_wp2_with (go_at_call 9; refine (same_yes A13 (some ⟨G, 0, none⟩) r c13 S w13.heap.size (G + 1) ((expd S ps 0 D).take r) w13 HLR.out HR13.out ((RB.of_blk HX13.out).take r)).mono ?_; rintro e w' ⟨rfl, rfl⟩)
                  go_ret
                  exact ⟨rfl, HBE.out⟩
end Go.Proofs.YtiahifohkhdmdaaDoor
