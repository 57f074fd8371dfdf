/- The walk of ZZSparseRead. -/
import Derived.Test.YtiahifohkhdmdaaDoorSp5
import Derived.Test.YtiahifohkhdmdaaDoorApp
import Derived.Test.YtiahifohkhdmdaaDoorNums
namespace Go.Proofs.YtiahifohkhdmdaaDoor
open Go.RowKit Go.PlainAid
set_option linter.unusedVariables false

theorem intinfo' : (Tryd.prog.info? 3).map (fun i => (i.zero, i.size, i.bytes)) = some (some (.int .i64 0), 1, 8) := by kernel_rfl
def eofI (l : Bool) : Int := if l then 1 else 0
theorem zzEof_any {B : Nat} (w : World) (l : Bool) {a : Addr} (ha : Err B w 2 a) :
    Calls Tryd.prog 28 #[eofV a l] w fun e w' => e = .returned (.int .i64 (eofI l)) ∧ w = w' := by
  cases l
  · exact zzEnd_nil w
  · exact zzEnd_eof w ha

set_option maxRecDepth 20000 in
set_option maxHeartbeats 400000 in
theorem newReader (A : Option Addr) (n c : Nat) (w : World) :
    Calls Tryd.prog 30 #[.slice A n c] w fun e w' => e = .returned (.pointer (some ⟨w.heap.size, 0, none⟩)) ∧ w.alloc (.cells (brCells A n c 0).toArray 94) = w' := by
  go_enter Tryd.func30, Tryd.ntmps30
  go_wp2
  go_ret
  exact ⟨rfl, rfl⟩

/-- How many bytes the first k calls read; how call k ends. -/
def rdN (S : Nat) (ns : List Int) : Nat → Nat
  | 0 => 0
  | k + 1 => rdN S ns k + min (nv ns k).toNat (S - rdN S ns k)
def rdE (S : Nat) (ns : List Int) (k : Nat) : Bool := decide (((S - rdN S ns k : Nat) : Int) ≤ nv ns k)
def rdV (S : Nat) (ns : List Int) (k : Nat) : List Value := (List.range k).map fun j => .int .i64 (eofI (rdE S ns j))
theorem rdN_le (S : Nat) (ns : List Int) : ∀ k, rdN S ns k ≤ S
  | 0 => Nat.zero_le _
  | k + 1 => by have := rdN_le S ns k; simp only [rdN]; omega
theorem rdV_succ (S : Nat) (ns : List Int) (k : Nat) : rdV S ns (k + 1) = rdV S ns k ++ [.int .i64 (eofI (rdE S ns k))] := by simp [rdV, List.range_succ]

theorem ownsRow_blk' {B e n : Nat} {v : Value} {xs : List Value} {w : World} (h : w.ownsRow B e 1 v n xs) {g : Nat} (hv : v.ownBlock = some g) : ∃ ys, Blk w g e ys := by
  rcases h.2 with ⟨rfl, _⟩ | ⟨g', cap, cur, rfl, _, hgg, _⟩
  · simp [Value.ownBlock] at hv
  · simp [Value.ownBlock] at hv
    subst hv
    exact ⟨cur.toList, by simpa [Blk] using hgg⟩
theorem blk_ne' {w : World} {g k t t' : Nat} {xs ys : List Value} (h : Blk w g t xs) (h' : Blk w k t' ys) (ht : t ≠ t') : g ≠ k := by
  rintro rfl
  have h3 : some (Obj.cells xs.toArray t (0, 0)) = some (.cells ys.toArray t' (0, 0)) := h.symm.trans h'
  injection h3 with h4
  injection h4 with _ h5 _
  exact ht h5
theorem own_more {w : World} {B B' : Nat} {e : TypeId} {n : Nat} {v : Value} {xs : List Value} (h : w.ownsRow B e 1 v n xs) (hB : B' ≤ B) : w.ownsRow B' e 1 v n xs := by
  refine ⟨h.1, ?_⟩
  rcases h.2 with h2 | ⟨g, cap, cur, hv, hg, r⟩
  · exact .inl h2
  · exact .inr ⟨g, cap, cur, hv, Nat.le_trans hB hg, r⟩
theorem SpAt.of_far {C R Fr Br : Nat} {H : List (Int × Int)} {p : Int} {D : List UInt8} {S : List Nat} {w w' : World} (h : SpAt C R Fr Br H p D w) (hf : Far S w w') (hC : C ≤ w.heap.size) (hR : R < C) (hF : Fr < C) (hB : Br < C) (hS : ∀ k ∈ S, C ≤ k) : SpAt C R Fr Br H p D w' := by
  obtain ⟨hb, ho, c, b1, hc, b2, b3, b4, b5, hcell⟩ := h.ex
  exact ⟨⟨hb, ho, c, b1.of_far hf (fun hk => by have := hS _ hk; omega), hc, b2, b3, b4, b5, fun i v hi => (hf.cell (p := ⟨hb, ho + i, none⟩) (show hb < _ by omega) (fun hk => by have := hS hb hk; omega)).trans (hcell i v hi)⟩,
    h.rd.of_far hf hC (fun hk => by have := hS _ hk; omega) (fun hk => by have := hS _ hk; omega) (fun k hk => .inl (hS k hk))⟩

/-- What ZZSparseRead has done behind k calls. -/
structure SpSt (B C R Fr Br : Nat) (a : Addr) (S : List UInt8) (E : Int) (ns : List Int) (k : Nat) (w : World) (out ends : Value) (wr : World) : Prop where
  rOut : wr.ownsRow C 5 1 out (rdN S.length ns k) (bys (S.take (rdN S.length ns k)))
  rEnds : wr.ownsRow C 3 1 ends k (rdV S.length ns k)
  rBel : Below B w wr
  rC : C ≤ wr.heap.size
  rSp : ∃ H D h T, SpOk (rdN S.length ns k) H D h T ∧ strm (rdN S.length ns k) H D = S.drop (rdN S.length ns k) ∧ hend H = E ∧ H.length ≤ 1000000 ∧ SpAt C R Fr Br H (rdN S.length ns k) D wr

theorem sp_start {w w1 w3 : World} {Ad Ah : Option Addr} {n cd m ch : Nat} {D : List UInt8} {H : List (Int × Int)} {h : Int × Int} {T : List (Int × Int)} (a : Addr) (ns : List Int) (hb1 : Below w.heap.size w w1) (hn : D.length = n) (hnc : n ≤ cd) (hnb : n ≤ 70368744177664) (hr : RB w1 w1.heap.size Ad D)
    (hblk : ∀ ad, Ad = some ad → w.heap.size ≤ ad.block ∧ ad.block < w1.heap.size ∧ ad.off = 0 ∧ ad.spot = none) (hk : SpOk 0 H D h T) (hm : H.length = m) (hmb : m ≤ 1000000)
    (ho : w3.ownsRow (((w1.alloc (.cells (brCells Ad n cd 0).toArray 94)).alloc (.cells #[.iface 75 (.pointer (some ⟨w1.heap.size, 0, none⟩)), .int .i64 n] 80)).heap.size) 95 2 (.slice Ah m ch) m (pcs H))
    (hb3 : Below (((w1.alloc (.cells (brCells Ad n cd 0).toArray 94)).alloc (.cells #[.iface 75 (.pointer (some ⟨w1.heap.size, 0, none⟩)), .int .i64 n] 80)).heap.size) ((w1.alloc (.cells (brCells Ad n cd 0).toArray 94)).alloc (.cells #[.iface 75 (.pointer (some ⟨w1.heap.size, 0, none⟩)), .int .i64 n] 80)) w3) :
    SpEnv w.heap.size (w3.heap.size + 1) w3.heap.size (w1.heap.size + 1) w1.heap.size ∧
    SpSt w.heap.size (w3.heap.size + 1) w3.heap.size (w1.heap.size + 1) w1.heap.size a (strm 0 H D) (hend H) ns 0 w (.slice none 0 0) (.slice none 0 0) (w3.alloc (.cells (srCells (w1.heap.size + 1) Ah m ch 0).toArray 87)) := by
  have hs1 := hb1.size
  have bBr := Blk.new w1 94 (brCells Ad n cd 0)
  have bFr := Blk.new (w1.alloc (.cells (brCells Ad n cd 0).toArray 94)) 80 [.iface 75 (.pointer (some ⟨w1.heap.size, 0, none⟩)), .int .i64 n]
  have bBr2 := bBr.alloc (.cells [.iface 75 (.pointer (some ⟨w1.heap.size, 0, none⟩)), .int .i64 n].toArray 80)
  have hbel : Below w1.heap.size w1 ((w1.alloc (.cells (brCells Ad n cd 0).toArray 94)).alloc (.cells #[.iface 75 (.pointer (some ⟨w1.heap.size, 0, none⟩)), .int .i64 n] 80)) := ((Below.refl _ _).alloc (Nat.le_refl _) _).alloc (by simp) _
  have hsz : ((w1.alloc (.cells (brCells Ad n cd 0).toArray 94)).alloc (.cells #[.iface 75 (.pointer (some ⟨w1.heap.size, 0, none⟩)), .int .i64 n] 80)).heap.size = w1.heap.size + 2 := by simp
  have e1 : (w1.alloc (.cells (brCells Ad n cd 0).toArray 94)).heap.size = w1.heap.size + 1 := by simp
  rw [e1] at bFr
  rw [hsz] at ho hb3
  generalize (w1.alloc (.cells (brCells Ad n cd 0).toArray 94)).alloc (.cells #[.iface 75 (.pointer (some ⟨w1.heap.size, 0, none⟩)), .int .i64 n] 80) = W at *
  have hs3 := hb3.size
  have hall : Below w3.heap.size w3 (w3.alloc (.cells (srCells (w1.heap.size + 1) Ah m ch 0).toArray 87)) := (Below.refl _ _).alloc (Nat.le_refl _) _
  have bR := Blk.new w3 87 (srCells (w1.heap.size + 1) Ah m ch 0)
  have bB4 := (bBr2.below hb3 (by omega)).below hall (by have := bBr2.lt; omega)
  have bF4 := (bFr.below hb3 (by omega)).below hall (by have := bFr.lt; omega)
  have hbW : Below w1.heap.size w1 w3 := hbel.trans (hb3.mono (by omega))
  have hr4 := (hr.below hbW).below (hall.mono (by omega))
  refine ⟨⟨by omega, by omega, by omega, by omega, by omega, by omega, by omega, by omega, by omega⟩, ⟨World.ownsRow_nil _ _ _ _, World.ownsRow_nil _ _ _ _, (hb1.trans (hbW.mono hs1)).trans (hall.mono (by omega)), by simp, H, D, h, T, hk, by simp [rdN], rfl, by omega, ?_⟩⟩
  constructor
  · rcases ho.2 with ⟨h1, h2⟩ | ⟨g, cap, cur, hv, hg, hgg, hle, hrest⟩
    · have := ho.1
      rw [length_pcs, hk.e] at this
      subst h2
      simp at this
    · injection hv with hA hm' hc'
      subst hA hc'
      have hgl : g < w3.heap.size := by
        rcases Nat.lt_or_ge g w3.heap.size with hlt | hge
        · exact hlt
        · rw [Array.getElem?_eq_none hge] at hgg; cases hgg
      refine ⟨g, 0, ch, by rw [hm]; exact bR, by omega, by omega, by omega, by omega, by omega, fun i v hi => ?_⟩
      have h3 := ho.cells (g := g) rfl i v hi
      rw [Addr.add_lit] at h3
      exact (hall.cell (p := ⟨g, 0 + i, none⟩) hgl).trans h3
  · exact ⟨Ad, n, cd, 0, D, by rw [hn]; exact bF4, bB4, hn, hnc, hnb, rfl, by omega, hr4.more (by omega), fun ad h => by have := hblk ad h; omega⟩

def SpOut (S : List UInt8) (ns : List Int) (k : Nat) (w : World) (e : Ending) (w' : World) : Prop :=
  ∃ out ends, e = .returned (.tuple #[out, ends]) ∧ w'.ownsRow w.heap.size 5 1 out (rdN S.length ns k) (bys (S.take (rdN S.length ns k))) ∧ w'.ownsRow w.heap.size 3 1 ends k (rdV S.length ns k) ∧ Below w.heap.size w w'

set_option maxRecDepth 20000 in
set_option maxHeartbeats 4000000 in
theorem zzSparseRead (A Ah Ac : Option Addr) (n c m ch kn cc : Nat) (D : List UInt8) (H : List (Int × Int)) (h : Int × Int) (T : List (Int × Int)) (ns : List Int) (a : Addr) (w : World) (hn : D.length = n) (hr : RB w w.heap.size A D)
    (hm : H.length = m) (hrh : RC w w.heap.size Ah (pcs H)) (hk : SpOk 0 H D h T) (hkn : ns.length = kn) (hrc : RC w w.heap.size Ac (nums ns)) (hns : ∀ k, k < kn → 0 ≤ nv ns k ∧ nv ns k ≤ 1073741824)
    (hmb : m ≤ 1000000) (hkb : kn ≤ 4611686018427) (hE : Err w.heap.size w 2 a) :
    Calls Tryd.prog 22 #[.slice A n c, .slice Ah m ch, .slice Ac kn cc] w (SpOut (strm 0 H D) ns kn w) := by
  have HN := Lib.hid hn
  have HR := Lib.hid hr
  have HM := Lib.hid hm
  have HRH := Lib.hid hrh
  have HK := Lib.hid hk
  have HKN := Lib.hid hkn
  have HRC := Lib.hid hrc
  have HNS := Lib.hid hns
  have HE := Lib.hid hE
  have hnb : n ≤ 1099511627776 := by
    have h1 := hk.len
    have h2 := hk.big
    have h3 := dlen_le hk
    omega
  clear hn hr hm hrh hk hkn hrc hns hE
  go_enter Tryd.func22, Tryd.ntmps22
  go_wp2_with fail
  refine (clone_any A n c w.heap.size D w HN.out HR.out (Nat.le_refl _) (by omega)).mono ?_
  rintro e w1 ⟨v, rfl, hv, hb1⟩
  obtain ⟨Ad, cd, rfl, hnil, hnc, hblk⟩ := own_form hv
  have HV := Lib.hid (RB.of_RC (RC.of_own hv))
  have HB1 := Lib.hid hb1
  have HBLK := Lib.hid hblk
  have hs1 := hb1.size
  clear hv hb1 hblk hnil
  go_wp2_with fail
  refine (newReader Ad n cd w1).mono ?_
  rintro e w2 ⟨rfl, rfl⟩
  have HRH2 := Lib.hid (((HRH.out.below HB1.out).alloc hs1 (.cells (brCells Ad n cd 0).toArray 94)).alloc (by simp; omega) (.cells #[.iface 75 (.pointer (some ⟨w1.heap.size, 0, none⟩)), .int .i64 n] 80))
  go_wp2_with fail
  refine (zzIn_any Ah m ch w.heap.size H _ HM.out HRH2.out (by simp; omega) (by omega)).mono ?_
  rintro e w3 ⟨v, rfl, hv, hb3⟩
  obtain ⟨Ah', ch', rfl, hnil, hnc', hblk⟩ := own_form hv
  obtain ⟨henv, hst⟩ := sp_start a ns HB1.out HN.out hnc (by omega) HV.out HBLK.out HK.out HM.out hmb hv hb3
  have HENV := Lib.hid henv
  have HST := Lib.hid hst
  clear hv hb3 hblk hnil henv hst
  go_wp2_with fail
  go_loopw [9, 10, 31] (fun out ends i wr => ∃ k : Nat, k ≤ kn ∧ i = .int .i64 k ∧ SpSt w.heap.size (w3.heap.size + 1) w3.heap.size (w1.heap.size + 1) w1.heap.size a (strm 0 H D) (hend H) ns k w out ends wr) (fun _ _ i _ => kn - (intOf i).toNat)
  case atStart => exact ⟨0, by omega, rfl, HST.out⟩
  case round =>
    obtain ⟨k, hk, rfl, hst⟩ := hrel
    have HS := Lib.hid hst
    by_cases hlt : k < kn
    · obtain ⟨bc, oc, rfl, hbc, hcell⟩ := (HRC.out.below hst.rBel).num (k := k) (by rw [HKN.out]; omega)
      have hc0 := hcell k (by rw [HKN.out]; omega)
      obtain ⟨n1, n2⟩ := HNS.out k hlt
      obtain ⟨N, hN⟩ : ∃ N : Nat, nv ns k = (N : Int) := ⟨(nv ns k).toNat, by omega⟩
      rw [hN] at hc0 n2
      obtain ⟨H1, D1, h1, T1, ok1, st1, en1, hl1, at1⟩ := hst.rSp
      have HOK := Lib.hid ok1
      have HST1 := Lib.hid st1
      have HEN := Lib.hid en1
      have HAT := Lib.hid at1
      have HNN := Lib.hid hN
      have HSL : Hid (((strm 0 H D).length : Int) = hend H) := Lib.hid (by rw [HK.out.len]; omega)
      have hCr := hst.rC
      clear hst hcell n1 hN ok1 st1 en1 at1
      go_wp2_with (refine wpList_make_blk _ (o := ⟨some 36, _, _, _, _, _⟩) rfl _ _ _ rfl 5 _ 1 Tryd.underlying23 u8info rfl _ _ N N N rfl rfl rfl rfl (by omega) (by omega) ?_)
      intro wm hb hg hz
      have HG := Lib.hid (show Blk wm wr.heap.size 5 (bys (zbs N)) by rw [bys_zbs]; exact hb.out)
      have HFm := Lib.hid (Far.of_grown (S := []) hg (fun k h => by cases h))
      have henv := HENV.out
      have HATm := Lib.hid (HAT.out.of_far HFm.out hCr henv.cR henv.cF henv.cB (by simp))
      have HEm := Lib.hid ((HE.out.below HS.out.rBel (Nat.le_refl _)).below (HFm.out.below (B := w.heap.size) (by simp) (by have := HS.out.rBel.size; omega)) (Nat.le_refl _))
      have hCm : w3.heap.size + 1 ≤ wm.heap.size := by omega
      obtain ⟨fin, hfin⟩ : ∃ fin, decide (hend H1 - (rdN (strm 0 H D).length ns k : Int) ≤ (N : Int)) = fin := ⟨_, rfl⟩
      have HFIN := Lib.hid hfin
      have hzm := hz
      clear hb hg hz henv
      go_wp2_with fail
      refine (spRead w.heap.size (w3.heap.size + 1) w3.heap.size (w1.heap.size + 1) w1.heap.size wr.heap.size N a _ H1 D1 h1 T1 wm HENV.out HATm.out HOK.out HG.out hCm hCr (by omega) hl1 HEm.out).mono ?_
      rintro e w4 ⟨mm, H2, D2, h2, T2, hmm, he, s1, s2, s3, s3l, s4, s5, s6⟩
      rw [hfin] at he
      subst he
      clear hfin
      have hrle := rdN_le (strm 0 H D).length ns k
      have hstep : rdN (strm 0 H D).length ns (k + 1) = rdN (strm 0 H D).length ns k + mm := by
        show rdN (strm 0 H D).length ns k + min (nv ns k).toNat ((strm 0 H D).length - rdN (strm 0 H D).length ns k) = _
        have h1 := HNN.out
        have h2 := HSL.out
        have h3 := HEN.out
        rw [h1, hmm, h3, ← h2]
        omega
      have hfe : rdE (strm 0 H D).length ns k = fin := by
        rw [← HFIN.out]
        unfold rdE
        have h1 := HNN.out
        have h2 := HSL.out
        have h3 := HEN.out
        rw [h1, h3, ← h2]
        congr 1
        apply propext
        omega
      have hS2 : (strm 0 H D).drop (rdN (strm 0 H D).length ns k) = strm (rdN (strm 0 H D).length ns k) H1 D1 := HST1.out.symm
      have hmN : mm ≤ N := by omega
      have hmNI : (mm : Int) ≤ (N : Int) := by omega
      have hsz := HSL.out
      have hbig := HK.out.big
      have hlen : mm ≤ (strm (rdN (strm 0 H D).length ns k) H1 D1).length := by
        have h3 := HEN.out
        rw [← hS2, List.length_drop, hmm, h3, ← hsz]
        omega
      have HTK : Hid ((bys ((strm (rdN (strm 0 H D).length ns k) H1 D1).take mm)).length = mm * 1) := Lib.hid (by rw [length_bys, List.length_take]; omega)
      have hCw4 : w3.heap.size + 1 ≤ w4.heap.size := Nat.le_trans hCm s6.size
      have hgw : wr.heap.size < wm.heap.size := by omega
      have henv := HENV.out
      have HO4 := Lib.hid (own_of_far (own_of_far HS.out.rOut HFm.out (by simp)) s6 (fun q hq => by have h8 := HS.out.rOut.lt q hq; simp; have := henv.cR; have := henv.cF; have := henv.cB; omega))
      have HE4 := Lib.hid (own_of_far (own_of_far HS.out.rEnds HFm.out (by simp)) s6 (fun q hq => by have h8 := HS.out.rEnds.lt q hq; simp; have := henv.cR; have := henv.cF; have := henv.cB; omega))
      have HBel4 := Lib.hid (HS.out.rBel.trans ((HFm.out.below (B := w.heap.size) (by simp) (by have := HS.out.rBel.size; omega)).trans (s6.below (B := w.heap.size) (by intro q hq; simp at hq; have := henv.bR; have := henv.bF; have := henv.bB; have := HS.out.rBel.size; omega) (by have := HS.out.rBel.size; omega))))
      have HRB4 : Hid (RB w4 (wr.heap.size + 1) (some ⟨wr.heap.size, 0, none⟩) ((strm (rdN (strm 0 H D).length ns k) H1 D1).take mm)) := Lib.hid (by
        have := (RB.of_blk s5).take mm
        rwa [List.take_append_of_le_length (by rw [List.length_take]; omega), List.take_take, Nat.min_self] at this)
      have HS1 := Lib.hid s1
      have HS2 := Lib.hid (show strm (rdN (strm 0 H D).length ns k + mm : Nat) H2 D2 = (strm 0 H D).drop (rdN (strm 0 H D).length ns k + mm) by rw [← List.drop_drop, hS2]; simpa using s2)
      have HS3 := Lib.hid (s3.trans HEN.out)
      have HS4 := Lib.hid s4
      have HSTEP := Lib.hid hstep
      have HFE := Lib.hid hfe
      have HSS := Lib.hid hS2
      have rb1 : rdN (strm 0 H D).length ns k ≤ 1099511627776 := by omega
      have mb1 : mm ≤ 1099511627776 := by omega
      clear hmm s1 s2 s3 s4 s5 s6 hrle hstep hfe hS2 hsz hbig henv
      go_wp2_with (at_builtin; refine wpList_append_rc _ (o := ⟨some 47, _, _, _, _, _⟩) rfl (.tmp 43) (.tmp 46) _ rfl (w3.heap.size + 1) 5 _ 1 1 Tryd.underlying23 u8info rfl (by omega) _ _ _ rfl HO4.out (some ⟨wr.heap.size, 0, none⟩) mm _ _ (bys ((strm (rdN (strm 0 H D).length ns k) H1 D1).take mm)) rfl HTK.out (RC.of_RB HRB4.out) (bys_one _) (by omega) (by omega) hCw4 ?_)
      intro out' w5 q1 q2 q3
      have HO5 : Hid (w5.ownsRow (w3.heap.size + 1) 5 1 out' (rdN (strm 0 H D).length ns (k + 1)) (bys ((strm 0 H D).take (rdN (strm 0 H D).length ns (k + 1))))) := Lib.hid (by
        have h1 := q1.out
        rw [HSTEP.out, List.take_add, HSS.out, bys_append]
        exact h1)
      have hrow : ∀ q, u9.ownBlock = some q → w3.heap.size + 1 ≤ q := fun q hq => (HO4.out.lt q hq).1
      have HF5 := Lib.hid (Far.of_grown (S := u9.ownBlock.toList) q2.out (fun q hq => by rw [hq]; simp))
      have HE5 := Lib.hid (HE4.out.kept q2.out (by
        cases hu : u10.ownBlock with
        | none => exact .inl rfl
        | some g => exact .inr (fun hv => by
            obtain ⟨ys, hy⟩ := ownsRow_blk' HE4.out hu
            obtain ⟨zs, hz⟩ := ownsRow_blk' HO4.out hv.symm
            exact blk_ne' hy hz (by decide) rfl)))
      have hl5 : ∀ q ∈ u9.ownBlock.toList, w3.heap.size + 1 ≤ q := fun q hq => hrow q (by simpa using hq)
      have HAT5 := Lib.hid (HS4.out.of_far HF5.out hCw4 HENV.out.cR HENV.out.cF HENV.out.cB hl5)
      have HBel5 := Lib.hid (HBel4.out.trans (HF5.out.below (B := w.heap.size) (fun q hq => by have := hl5 q hq; have := HENV.out.bR; omega) (by have := HENV.out.bR; omega)))
      have hC5 := Nat.le_trans hCw4 HF5.out.size
      clear q1 q2 q3 hrow hl5
      go_wp2_with fail
      refine (zzEof_any (B := w.heap.size) w5 fin (HE.out.below HBel5.out (Nat.le_refl _))).mono ?_
      rintro e w6 ⟨rfl, rfl⟩
      go_wp2_with (at_builtin; refine wpList_append_one (o := ⟨some 52, _, _, _, _, _⟩) rfl (.tmp 48) (.tmp 51) _ rfl (w3.heap.size + 1) 3 _ 8 Tryd.underlying32 intinfo' rfl _ k (rdV (strm 0 H D).length ns k) rfl (HE5.out.alloc _) rfl rfl (by omega) (by omega) hC5 ?_)
      intro ends' w7 q1 q2 q3
      have HAL := Lib.hid ((Below.refl w5.heap.size w5).alloc (Nat.le_refl _) (.cells #[.int .i64 (eofI fin)] 3))
      have hl7 : ∀ q ∈ u10.ownBlock.toList, w3.heap.size + 1 ≤ q := fun q hq => (HE5.out.lt q (by simpa using hq)).1
      have HF7 := Lib.hid (Far.of_grown (S := u10.ownBlock.toList) q2.out (fun q hq => by rw [hq]; simp))
      have hC6 := Nat.le_trans hC5 HAL.out.size
      have HBel7 := Lib.hid ((HBel5.out.trans (HAL.out.mono (by have := HENV.out.bR; omega))).trans (HF7.out.below (B := w.heap.size) (fun q hq => by have := hl7 q hq; have := HENV.out.bR; omega) (by have := HENV.out.bR; omega)))
      have HNEXT : Hid (SpSt w.heap.size (w3.heap.size + 1) w3.heap.size (w1.heap.size + 1) w1.heap.size a (strm 0 H D) (hend H) ns (k + 1) w out' ends' w7) := by
        show SpSt _ _ _ _ _ _ _ _ _ _ _ _ _ _
        have ec : ((rdN (strm 0 H D).length ns (k + 1) : Nat) : Int) = (rdN (strm 0 H D).length ns k : Int) + mm := by rw [HSTEP.out]; exact Int.natCast_add _ _
        refine ⟨?_, ?_, HBel7.out, Nat.le_trans hC6 HF7.out.size, H2, D2, h2, T2, by rw [ec]; exact HS1.out, ?_, HS3.out, s3l, ?_⟩
        · refine (own_below HO5.out HAL.out (Nat.le_refl _)).kept q2.out ?_
          cases hu : out'.ownBlock with
          | none => exact .inl rfl
          | some g => exact .inr (fun hv => by
              obtain ⟨ys, hy⟩ := ownsRow_blk' HO5.out hu
              obtain ⟨zs, hz⟩ := ownsRow_blk' HE5.out hv.symm
              exact blk_ne' hy hz (by decide) rfl)
        · rw [rdV_succ, HFE.out]
          exact q1.out
        · have := HS2.out
          rw [← HSTEP.out] at this
          exact this
        · rw [ec]
          exact (HAT5.out.of_far (Far.of_below (S := []) HAL.out) hC5 HENV.out.cR HENV.out.cF HENV.out.cB (by simp)).of_far HF7.out hC6 HENV.out.cR HENV.out.cF HENV.out.cB hl7
      clear q1 q2 q3 hl7
      go_wp2
      go_roundw
      case rel => exact ⟨k + 1, by omega, by go_num, HNEXT.out⟩
      case measure => simp [intOf]; omega
    · obtain rfl : k = kn := by omega
      clear hst
      go_wp2
      go_ret2
      have hle := HENV.out.bR
      exact ⟨_, _, rfl, own_more HS.out.rOut (by omega), own_more HS.out.rEnds (by omega), HS.out.rBel⟩
end Go.Proofs.YtiahifohkhdmdaaDoor
