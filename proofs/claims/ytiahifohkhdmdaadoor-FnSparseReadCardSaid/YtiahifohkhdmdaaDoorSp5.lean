/- The walk of sparseFileReader.Read. -/
import Derived.Test.YtiahifohkhdmdaaDoorSp4
import Derived.Test.YtiahifohkhdmdaaDoorSpPlain
namespace Go.Proofs.YtiahifohkhdmdaaDoor
open Go.RowKit Go.PlainAid
set_option linter.unusedVariables false

theorem okH_last : ∀ (H : List (Int × Int)) (a : Int) (q : Nat), okH a H → 0 ≤ a → H.length = q + 1 → 0 ≤ po H q ∧ 0 ≤ pl H q ∧ hend H = po H q + pl H q
  | [h], a, q, hk, ha, hq => by
    obtain rfl : q = 0 := by simpa using hq.symm
    have h1 := hk.1
    have h2 := hk.2.1
    exact ⟨by show 0 ≤ h.1; omega, by show 0 ≤ h.2; omega, rfl⟩
  | h :: x :: H, a, q, hk, ha, hq => by
    obtain ⟨q', rfl⟩ : ∃ q', q = q' + 1 := ⟨q - 1, by simp at hq; omega⟩
    have h1 := hk.1
    have h2 := hk.2.1
    have ih := okH_last (x :: H) (h.1 + h.2) q' hk.2.2.2 (by omega) (by simpa using hq)
    rw [hend_cons h (x :: H) (by simp)]
    simpa [po, pl, List.getD] using ih
theorem SpOk.last {p : Int} {H T : List (Int × Int)} {D : List UInt8} {h : Int × Int} (k : SpOk p H D h T) : 0 ≤ po H T.length ∧ 0 ≤ pl H T.length ∧ hend H = po H T.length + pl H T.length := by
  have h1 := k.h1
  obtain rfl := k.e
  exact okH_last (h :: T) h.1 T.length ⟨by omega, k.h1, k.h2, k.ok⟩ k.h0 (by simp)

/-- A sparse reader in memory. -/
structure SpAt (C R Fr Br : Nat) (H : List (Int × Int)) (p : Int) (D : List UInt8) (w : World) : Prop where
  ex : ∃ hb ho c, Blk w R 87 (srCells Fr (some ⟨hb, ho, none⟩) H.length c p) ∧ H.length ≤ c ∧ hb < C ∧ hb ≠ R ∧ hb ≠ Fr ∧ hb ≠ Br ∧ ∀ i v, (pcs H)[i]? = some v → w.cell? ⟨hb, ho + i, none⟩ = some v
  rd : RdAt C R Fr Br D w
/-- What stands throughout. -/
structure SpEnv (B C R Fr Br : Nat) : Prop where
  cR : R < C
  cF : Fr < C
  cB : Br < C
  bR : B ≤ R
  bF : B ≤ Fr
  bB : B ≤ Br
  n1 : R ≠ Fr
  n2 : R ≠ Br
  n3 : Fr ≠ Br

def SpReadPost (C R Fr Br g N : Nat) (a : Addr) (p : Int) (H : List (Int × Int)) (D : List UInt8) (w : World) (e : Ending) (w' : World) : Prop :=
  ∃ (m : Nat) (H' : List (Int × Int)) (D' : List UInt8) (h' : Int × Int) (T' : List (Int × Int)), m = min N (hend H - p).toNat ∧ e = .returned (.tuple #[.int .i64 m, eofV a (decide (hend H - p ≤ N))]) ∧
    SpOk (p + m) H' D' h' T' ∧ strm (p + m) H' D' = (strm p H D).drop m ∧ hend H' = hend H ∧ H'.length ≤ 1000000 ∧ SpAt C R Fr Br H' (p + m) D' w' ∧ Blk w' g 5 (bys ((strm p H D).take m ++ zbs (N - m))) ∧ Far [R, Fr, Br, g] w w'

def lenOf : Value → Nat
  | .slice _ n _ => n
  | _ => 0
/-- What Read's loop has done: j bytes. -/
def LoopAt (C R Fr Br g N L : Nat) (p : Int) (S : List UInt8) (E : Int) (w : World) (b e : Value) (wr : World) : Prop :=
  ∃ (j m n : Nat) (r : Int) (H1 : List (Int × Int)) (D1 : List UInt8) (h1 : Int × Int) (T1 : List (Int × Int)) (A' : Option Addr) (c' : Nat), j + m = L ∧ j + n = N ∧ r = p + j ∧ e = .nilIface ∧ b = .slice A' m c' ∧ (0 < m → A' = some ⟨g, j, none⟩ ∧ c' = n) ∧
    SpOk r H1 D1 h1 T1 ∧ strm r H1 D1 = S.drop j ∧ hend H1 = E ∧ H1.length ≤ 1000000 ∧ SpAt C R Fr Br H1 r D1 wr ∧ Blk wr g 5 (bys (S.take j ++ zbs n)) ∧ Far [R, Fr, Br, g] w wr
theorem zerosAt_tail {S : List UInt8} {j n c : Nat} (hj : j ≤ S.length) (hc : c ≤ n) : ZerosAt (S.take j ++ zbs n) j c := by
  intro i hi
  rw [List.getElem?_append_right (by rw [List.length_take]; omega), List.length_take, Nat.min_eq_left hj, show j + i - j = i by omega]
  unfold zbs
  rw [List.getElem?_replicate, if_pos (by omega)]
theorem room_of {r : Int} {H T : List (Int × Int)} {D S : List UInt8} {h : Int × Int} {j : Nat} (k : SpOk r H D h T) (hs : strm r H D = S.drop j) (hj : j < S.length) : r < h.1 + h.2 := by
  have h1 := k.len
  rw [hs, List.length_drop] at h1
  by_cases hT : T = []
  · have e := k.e
    subst hT
    subst e
    simp only [hend] at h1
    omega
  · exact k.p2 hT
/-- What one fragment of c bytes leaves. -/
def FragAt (C R Fr Br g n j c : Nat) (r : Int) (S : List UInt8) (H1 : List (Int × Int)) (T1 : List (Int × Int)) (h1 : Int × Int) (w2 wc : World) : Prop :=
  1 ≤ c ∧ ∃ D2, Frag r c H1 T1 h1 D2 (S.drop (j + c)) ∧ RdAt C R Fr Br D2 wc ∧ Blk wc g 5 (bys (S.take (j + c) ++ zbs (n - c))) ∧ Far [Fr, Br, g] w2 wc

set_option maxRecDepth 20000 in
set_option maxHeartbeats 4000000 in
theorem spRead (B C R Fr Br g N : Nat) (a : Addr) (p : Int) (H : List (Int × Int)) (D : List UInt8) (h : Int × Int) (T : List (Int × Int)) (w : World) (hv : SpEnv B C R Fr Br) (ha : SpAt C R Fr Br H p D w) (hk : SpOk p H D h T)
    (hg : Blk w g 5 (bys (zbs N))) (hC : C ≤ w.heap.size) (hgC : C ≤ g) (hN : N ≤ 1099511627776) (hHb : H.length ≤ 1000000) (hE : Err B w 2 a) :
    Calls Tryd.prog 32 #[.pointer (some ⟨R, 0, none⟩), .slice (some ⟨g, 0, none⟩) N N] w (SpReadPost C R Fr Br g N a p H D w) := by
  obtain ⟨hb, ho, c, b1, hc, b2, b3, b4, b5, hcell⟩ := ha.ex
  have HK := Lib.hid hk
  obtain ⟨l1, l2, l3⟩ := hk.last
  have hHl : H.length = T.length + 1 := by rw [hk.e]; rfl
  have lb := hk.big
  have le := hk.le_end
  have k1 := hk.p0
  have k2 := hk.h0
  have k3 := hk.h1
  have k4 := hk.p1
  obtain ⟨q, hq⟩ : ∃ q, T.length = q := ⟨_, rfl⟩
  rw [hq] at l1 l2 l3 hHl
  obtain ⟨x, hx⟩ : ∃ x, po H q = x := ⟨_, rfl⟩
  obtain ⟨y, hy⟩ : ∃ y, pl H q = y := ⟨_, rfl⟩
  have e1 := hcell _ _ (pcs_get1 H q (by omega))
  have e2 := hcell _ _ (pcs_get2 H q (by omega))
  rw [hx] at l1 l3 e1
  rw [hy] at l2 l3 e2
  rw [hHl] at b1 hc
  rw [← Nat.add_assoc] at e2
  have c0 : w.cell? ⟨R, 0, none⟩ = some (.iface 74 (.pointer (some ⟨Fr, 0, none⟩))) := by rw [b1.cell]; rfl
  have c1 : w.cell? ⟨R, 1, none⟩ = some (.slice (some ⟨hb, ho, none⟩) (q + 1) c) := by rw [b1.cell]; rfl
  have c2 : w.cell? ⟨R, 2, none⟩ = some (.int .i64 p) := by rw [b1.cell]; rfl
  have hpx : p ≤ x + y := by omega
  have hRc : R < w.heap.size := by have := hv.cR; omega
  have HLOG := fun (w' : World) (hb' : Below w.heap.size w w') => Lib.hid (logical Fr hb ho q c x y p w' ((hb'.cell (p := ⟨hb, ho + q * 2, none⟩) (show hb < _ by omega)).trans e1) ((hb'.cell (p := ⟨hb, ho + q * 2 + 1, none⟩) (show hb < _ by omega)).trans e2) (by omega) (by omega) (by have := hb'.size; omega) l1 (by omega) l2 (by omega) k1 (by omega))
  have HL0 := Lib.hid HLOG
  have HB1 := Lib.hid b1
  have HCELL := Lib.hid hcell
  have HRD := Lib.hid ha.rd
  have HG := Lib.hid hg
  have HE := Lib.hid hE
  have HV := Lib.hid hv
  have HL3 := Lib.hid l3
  have HHL := Lib.hid hHl
  have HX := Lib.hid hx
  have HY := Lib.hid hy
  have HQ := Lib.hid hq
  obtain ⟨fin, hfin⟩ : ∃ fin, decide (x + y - p ≤ (N : Int)) = fin := ⟨_, rfl⟩
  have HFIN := Lib.hid hfin
  clear HLOG b1 hcell ha hg hE hv l3 hHl hk e1 e2 hx hy hq
  go_enter Tryd.func32, Tryd.ntmps32
  go_upto_if 21 with (go_at_call 35; refine (HL0.out _ (Below.refl _ _)).out.mono ?_; rintro e w1 ⟨rfl, hb1⟩; have d0 := (hb1.cell (p := ⟨R, 0, none⟩) hRc).trans c0; have d1 := (hb1.cell (p := ⟨R, 1, none⟩) hRc).trans c1; have d2 := (hb1.cell (p := ⟨R, 2, none⟩) hRc).trans c2)
  go_cut [1] (fun b wc => b = .slice (some ⟨g, 0, none⟩) (min N (x + y - p).toNat) N ∧ Below w.heap.size w wc)
  case first =>
    cases fin
    · have hle : min N (x + y - p).toNat = N := by have := HFIN.out; simp at this; omega
      have HLE := Lib.hid hle
      clear hle
      go_wp2
      go_meet
      case rel => exact ⟨by rw [HLE.out], hb1⟩
    · have hle2 : x + y - p ≤ (N : Int) := by have := HFIN.out; simpa using this
      have hle3 : 0 ≤ x + y - p := by omega
      have hle : min N (x + y - p).toNat = (x + y - p).toNat := by omega
      have HLE := Lib.hid hle
      clear hle
      go_wp2_with (go_at_call 35; refine (HL0.out _ hb1).out.mono ?_; rintro e w2 ⟨rfl, hb2⟩)
      go_meet
      case rel => exact ⟨by rw [HLE.out], hb1.trans (hb2.mono hb1.size)⟩
  case rest =>
    obtain ⟨L, hL⟩ : ∃ L, min N (x + y - p).toNat = L := ⟨_, rfl⟩
    rw [hL] at hcut
    obtain ⟨rfl, hbc⟩ := hcut
    have hLN : L ≤ N := by omega
    have hLr : (L : Int) ≤ x + y - p := by omega
    have HLL := Lib.hid hL
    clear hL
    have c2' : wc.cell? ⟨R, 2, none⟩ = some (.int .i64 p) := by rw [(HB1.out.below hbc hRc).cell]; rfl
    have HST : Hid (LoopAt C R Fr Br g N L p (strm p H D) (hend H) w (.slice (some ⟨g, 0, none⟩) L N) .nilIface wc) := Lib.hid ⟨0, L, N, p, H, D, h, T, some ⟨g, 0, none⟩, N, by omega, by omega, by omega, rfl, rfl, fun _ => ⟨rfl, rfl⟩, HK.out, by simp, rfl, hHb,
      by
        exact ⟨⟨hb, ho, c, by rw [HHL.out]; exact HB1.out.below hbc hRc, by rw [HHL.out]; exact hc, b2, b3, b4, b5, fun i v hi => (hbc.cell (p := ⟨hb, ho + i, none⟩) (show hb < _ by omega)).trans (HCELL.out i v hi)⟩, HRD.out.of_far (Far.of_below (S := []) hbc) hC (by simp) (by simp) (by simp)⟩, by simpa using HG.out.below hbc HG.out.lt, Far.of_below hbc⟩
    clear c0 c1 c2 d0 d1 d2 hb1 hc b2 b3 b4 b5 hbc
    go_wp2_with fail
    go_loopw [1, 5] (fun b e wr => LoopAt C R Fr Br g N L p (strm p H D) (hend H) w b e wr) (fun b _ _ => lenOf b)
    case atStart => exact HST.out
    case round =>
      obtain ⟨j, m, n, r, H1, D1, h1, T1, A', c', hj, hn, hr, rfl, rfl, hA', ok1, st1, en1, hl1, at1, bg1, far1⟩ := hrel
      obtain ⟨hb, ho, c, b1, hc, b2, b3, b4, b5, hcell⟩ := at1.ex
      have c2 : wr.cell? ⟨R, 2, none⟩ = some (.int .i64 r) := by rw [b1.cell]; rfl
      have HB1 := Lib.hid b1
      have HCELL := Lib.hid hcell
      have HRD := Lib.hid at1.rd
      have HG1 := Lib.hid bg1
      have HFAR := Lib.hid far1
      have HOK := Lib.hid ok1
      have HSTR := Lib.hid st1
      have HEN := Lib.hid en1
      have hjL : j + m ≤ L := by omega
      have hjN : j + n ≤ N := by omega
      have hrp : r ≤ p + j := by omega
      have hrp2 : p + j ≤ r := by omega
      have hmn : m ≤ n := by omega
      have hCr : C ≤ wr.heap.size := Nat.le_trans hC far1.size
      have HNB := Lib.hid (show hb < C ∧ hb ≠ R ∧ hb ≠ Fr ∧ hb ≠ Br from ⟨b2, b3, b4, b5⟩)
      have HJ := Lib.hid (show j + m = L ∧ j + n = N ∧ r = p + j from ⟨hj, hn, hr⟩)
      clear hj hn hr b2 b3 b4 b5
      by_cases hlt : 0 < m
      · obtain ⟨rfl, rfl⟩ := hA' hlt
        clear b1 hcell at1 bg1 far1 ok1 st1 en1 hA'
        have t1 : r < p + L := by omega
        obtain ⟨q1, hq1⟩ : ∃ q1, T1.length = q1 := ⟨_, rfl⟩
        have hH1 : H1.length = q1 + 1 := by rw [HOK.out.e, ← hq1]; rfl
        have d1 : wr.cell? ⟨R, 1, none⟩ = some (.slice (some ⟨hb, ho, none⟩) (q1 + 1) c) := by rw [← hH1, HB1.out.cell]; rfl
        obtain ⟨o1, z1⟩ := h1
        have e0 : wr.cell? ⟨hb, ho, none⟩ = some (.int .i64 o1) := HCELL.out 0 _ (by rw [HOK.out.e]; rfl)
        have e1 : wr.cell? ⟨hb, ho + 1, none⟩ = some (.int .i64 z1) := HCELL.out 1 _ (by rw [HOK.out.e]; rfl)
        have x1 : 0 ≤ o1 := HOK.out.h0
        have x2 : 0 ≤ z1 := HOK.out.h1
        have x3 : o1 + z1 ≤ 1099511627776 := by have h5 := HOK.out.le_end; have h6 := HOK.out.big; simp only at h5; omega
        have x4 : r ≤ o1 + z1 := HOK.out.p1
        have x5 : 0 ≤ r := HOK.out.p0
        have HH1 := Lib.hid hH1
        have HQ1 := Lib.hid hq1
        clear hH1 hq1
        have i1 : (0 : Int) < (q1 : Int) + 1 := by omega
        have HRS : Hid (R < wr.heap.size) := Lib.hid HB1.out.lt
        have HB2 : Hid (Below wr.heap.size wr (wr.alloc (.cells #[.int .i64 o1, .int .i64 z1] 95)).drew) := Lib.hid (((Below.refl _ _).alloc (Nat.le_refl _) _).drew)
        go_upto_region 8 with fail
        go_region_held3 (fun w' => w'.cell? ⟨R, 1, none⟩ = some (.slice (some ⟨hb, ho, none⟩) (q1 + 1) c) ∧ w'.cell? ⟨hb, ho, none⟩ = some (.int .i64 o1) ∧ w'.cell? ⟨hb, ho + 1, none⟩ = some (.int .i64 z1)) (go_keep)
          ((go_at_call 36; refine (endOffset_any o1 z1 _ (by omega) (by omega)).mono ?_; rintro e w' ⟨rfl, rfl⟩))
        rename_i hHeld
        clear hHeld c2 d1 e0 e1
        generalize (wr.alloc (.cells #[.int .i64 o1, .int .i64 z1] 95)).drew = w2 at HB2 ⊢
        have HBR := Lib.hid (HB1.out.below HB2.out HRS.out)
        have c0 : w2.cell? ⟨R, 0, none⟩ = some (.iface 74 (.pointer (some ⟨Fr, 0, none⟩))) := by rw [HBR.out.cell]; rfl
        have c2 : w2.cell? ⟨R, 2, none⟩ = some (.int .i64 r) := by rw [HBR.out.cell]; rfl
        have HE2 := Lib.hid (HE.out.below ((HFAR.out.trans (Far.of_below HB2.out)).below (B := B) (by have h9 := HV.out; intro k hk; simp at hk; have := h9.bR; have := h9.bF; have := h9.bB; have := h9.cR; omega) (by have h9 := HV.out; have := h9.bR; have := h9.cR; omega)) (Nat.le_refl _))
        have hC2 : C ≤ w2.heap.size := Nat.le_trans hCr HB2.out.size
        have HG2 := Lib.hid (HG1.out.below HB2.out HG1.out.lt)
        have HRD2 := Lib.hid (HRD.out.of_far (Far.of_below (S := []) HB2.out) hCr (by simp) (by simp) (by simp))
        have HSL : Hid (((strm p H D).length : Int) = x + y - p) := Lib.hid (by rw [HK.out.len, HL3.out])
        have hjS : j ≤ (strm p H D).length := by have := HSL.out; omega
        go_upto_if 65 with fail
        go_cut [5, 9] (fun e nf wc => ∃ cN : Nat, e = .nilIface ∧ nf = .int .i64 cN ∧ cN ≤ m ∧ r + cN ≤ o1 + z1 ∧ FragAt C R Fr Br g c' j cN r (strm p H D) H1 T1 (o1, z1) w2 wc)
        case first =>
          by_cases hd : r < o1
          · obtain ⟨cN, hc1, hc2, hc3, hmin⟩ : ∃ cN : Nat, cN ≤ m ∧ r + cN ≤ o1 ∧ 1 ≤ cN ∧ min (m : Int) (o1 - r) = (cN : Int) := ⟨min m (o1 - r).toNat, by omega, by omega, by omega, by omega⟩
            obtain ⟨f1, f2, f3⟩ := frag_data HOK.out HSTR.out hc2
            have HF1 := Lib.hid f1
            have HF2 := Lib.hid f2
            have hfit : j + cN ≤ ((strm p H D).take j ++ zbs c').length := by rw [List.length_append, List.length_take, length_zbs]; omega
            have HREG : Hid (∀ w0, w0 = w2 ∨ w0 = w2.drew → Calls Tryd.prog 67 #[.pointer (some ⟨Fr, 0, none⟩), .slice (some ⟨g, j, none⟩) cN c'] w0 (ReadAll a cN (fun w' => RdAt C R Fr Br (D1.drop cN) w' ∧ Blk w' g 5 (bys (splice ((strm p H D).take j ++ zbs c') j (D1.take cN))) ∧ Far [Fr, Br, g] w2 w'))) := by
              show ∀ w0, _
              intro w0 hw0
              have g0 : Far [Fr, Br, g] w2 w0 := by rcases hw0 with rfl | rfl <;> first | exact Far.refl _ _ | exact (Far.refl _ _).drew
              have g1 : RdAt C R Fr Br D1 w0 := by rcases hw0 with rfl | rfl <;> first | exact HRD2.out | exact HRD2.out.drew
              have g2 : Blk w0 g 5 (bys ((strm p H D).take j ++ zbs c')) := by rcases hw0 with rfl | rfl <;> first | exact HG2.out | exact HG2.out
              have g3 : Err B w0 2 a := by
                rcases hw0 with rfl | rfl
                · exact HE2.out
                · exact HE2.out.below ((Below.refl B w2).drew) (Nat.le_refl _)
              have hv := HV.out
              refine (regRead B C R Fr Br g j cN c' a _ D1 w0 g1 g2 (Nat.le_trans hC2 g0.size) hgC hv.cF hv.cB hv.n3 hv.bF hv.bB hc3 f3 hfit g3).mono ?_
              rintro e w' ⟨rfl, r1, r2, r3⟩
              exact ⟨_, rfl, r1, r2, g0.trans r3⟩
            have HPE : Hid (∀ w', (RdAt C R Fr Br (D1.drop cN) w' ∧ Blk w' g 5 (bys (splice ((strm p H D).take j ++ zbs c') j (D1.take cN))) ∧ Far [Fr, Br, g] w2 w') → Err B w' 2 a) := Lib.hid (fun w' h => HE2.out.below (h.2.2.below (B := B) (by have h9 := HV.out; intro k hk; simp at hk; have := h9.bR; have := h9.bF; have := h9.bB; have := h9.cR; omega) (by have h9 := HV.out; have := h9.bR; have := h9.cR; omega)) (Nat.le_refl _))
            have HPD : Hid (∀ w', (RdAt C R Fr Br (D1.drop cN) w' ∧ Blk w' g 5 (bys (splice ((strm p H D).take j ++ zbs c') j (D1.take cN))) ∧ Far [Fr, Br, g] w2 w') → (RdAt C R Fr Br (D1.drop cN) w'.drew ∧ Blk w'.drew g 5 (bys (splice ((strm p H D).take j ++ zbs c') j (D1.take cN))) ∧ Far [Fr, Br, g] w2 w'.drew)) := Lib.hid (fun w' h => ⟨h.1.drew, h.2.1, h.2.2.drew⟩)
            have hX : (D1.take cN).length = cN := by rw [List.length_take]; omega
            have HSP : Hid (splice ((strm p H D).take j ++ zbs c') j (D1.take cN) = (strm p H D).take (j + cN) ++ zbs (c' - cN)) := Lib.hid (by rw [splice_at hjS hX (by omega), f2])
            have m1 : (cN : Int) ≤ (c' : Int) := by omega
            clear f1 f2 hX
            go_wp2_with (go_at_call 37; refine (tryReg Fr g j cN c' B a w2 _ hc3 (by omega) (by omega) HPE.out HPD.out HREG.out).mono ?_; rintro e w3 ⟨rfl, hP⟩)
            go_meet
            case rel => exact ⟨cN, rfl, rfl, hc1, by omega, hc3, D1.drop cN, HF1.out, hP.1, by rw [← HSP.out]; exact hP.2.1, hP.2.2⟩
          · obtain ⟨cN, hc1, hc2, hc3, hmin⟩ : ∃ cN : Nat, cN ≤ m ∧ r + cN ≤ o1 + z1 ∧ 1 ≤ cN ∧ min (m : Int) (o1 + z1 - r) = (cN : Int) := ⟨min m (o1 + z1 - r).toNat, by omega, by omega, by
              have h8 := room_of HOK.out HSTR.out (by have := HSL.out; omega)
              simp only at h8
              omega, by omega⟩
            obtain ⟨f1, f2⟩ := frag_hole HOK.out HSTR.out (show o1 ≤ r by omega) hc2
            have HF1 := Lib.hid f1
            have HZR : Hid (∀ w0, w0 = w2 ∨ w0 = w2.drew → Calls Tryd.prog 74 #[.agg #[], .slice (some ⟨g, j, none⟩) cN c'] w0 (ReadAll a cN (fun w' => Blk w' g 5 (bys ((strm p H D).take j ++ zbs c')) ∧ Far [g] w2 w'))) := by
              show ∀ w0, _
              intro w0 hw0
              have g0 : Far [g] w2 w0 := by rcases hw0 with rfl | rfl <;> first | exact Far.refl _ _ | exact (Far.refl _ _).drew
              have g2 : Blk w0 g 5 (bys ((strm p H D).take j ++ zbs c')) := by rcases hw0 with rfl | rfl <;> first | exact HG2.out | exact HG2.out
              refine (zeroRead g j cN c' _ w0 g2 (zerosAt_tail hjS (by omega)) hc3 (by omega)).mono ?_
              rintro e w' ⟨rfl, r2, r3⟩
              exact ⟨false, rfl, r2, g0.trans r3⟩
            have HPE : Hid (∀ w', (Blk w' g 5 (bys ((strm p H D).take j ++ zbs c')) ∧ Far [g] w2 w') → Err B w' 2 a) := Lib.hid (fun w' h => HE2.out.below (h.2.below (B := B) (by have h9 := HV.out; intro k hk; simp at hk; have := h9.bR; have := h9.cR; omega) (by have h9 := HV.out; have := h9.bR; have := h9.cR; omega)) (Nat.le_refl _))
            have HPD : Hid (∀ w', (Blk w' g 5 (bys ((strm p H D).take j ++ zbs c')) ∧ Far [g] w2 w') → (Blk w'.drew g 5 (bys ((strm p H D).take j ++ zbs c')) ∧ Far [g] w2 w'.drew)) := Lib.hid (fun w' h => ⟨h.1, h.2.drew⟩)
            have HSP : Hid ((strm p H D).take j ++ zbs c' = (strm p H D).take (j + cN) ++ zbs (c' - cN)) := Lib.hid (by rw [f2, List.append_assoc, ← zbs_add]; congr 2; omega)
            have m1 : (cN : Int) ≤ (c' : Int) := by omega
            clear f1 f2
            go_wp2_with (go_at_call 37; refine (tryZero g j cN c' B a w2 _ hc3 (by omega) (by omega) HPE.out HPD.out HZR.out).mono ?_; rintro e w3 ⟨rfl, hP⟩)
            go_meet
            case rel => exact ⟨cN, rfl, rfl, hc1, hc2, hc3, D1, HF1.out, HRD2.out.of_far hP.2 hC2 (by have h9 := HV.out; simp; have := h9.cF; omega) (by have h9 := HV.out; simp; have := h9.cB; omega) (by intro k hk; simp at hk; omega), by rw [← HSP.out]; exact hP.1, hP.2.mono (fun k _ hk => by simp at hk ⊢; omega)⟩
        case rest =>
          obtain ⟨cN, rfl, rfl, hc1, hc2, hfr⟩ := hcut
          have hc3 : 1 ≤ cN := hfr.1
          have HFR := Lib.hid hfr
          clear hfr
          have hw : IntKind.i64.wrap (r + cN) = r + cN := IntWalk.i64_in _ (by omega)
          have hcc : cN ≤ c' := by omega
          have hccI : (cN : Int) ≤ (c' : Int) := by omega
          have hcmI : (cN : Int) ≤ (m : Int) := by omega
          have hmcI : (m : Int) ≤ (c' : Int) := by omega
          have hq2 : (q1 : Int) + 1 ≤ (c : Int) := by have := HH1.out; omega
          obtain ⟨_, D2, fr, rd4, bg4, far4⟩ := HFR.out
          have h9 := HV.out
          have HR4 := Lib.hid (HBR.out.of_far far4 (by have := h9.cR; have := h9.n1; have := h9.n2; simp; omega))
          have HCELL4 : Hid (∀ i v, (pcs H1)[i]? = some v → wc.cell? ⟨hb, ho + i, none⟩ = some v) := Lib.hid (fun i v hi => by
            have n := HNB.out
            rw [far4.cell (p := ⟨hb, ho + i, none⟩) (show hb < _ by omega) (show hb ∉ _ by simp; omega), HB2.out.cell (p := ⟨hb, ho + i, none⟩) (show hb < _ by omega)]
            exact HCELL.out i v hi)
          have c1w : wc.cell? ⟨R, 1, none⟩ = some (.slice (some ⟨hb, ho, none⟩) (q1 + 1) c) := by rw [← HH1.out, HR4.out.cell]; rfl
          have c2w : wc.cell? ⟨R, 2, none⟩ = some (.int .i64 r) := by rw [HR4.out.cell]; rfl
          have f1w := HR4.out.frozen 1
          have f2w := HR4.out.frozen 2
          have HR5 := Lib.hid (HR4.out.set_ 2 (.int .i64 (r + cN)))
          have hgR : g ≠ R := by have := h9.cR; omega
          have HBG5 := Lib.hid (bg4.far (p := ⟨R, 2, none⟩) hgR (.int .i64 (r + cN)))
          have HRD5 := Lib.hid (rd4.of_far ((Far.refl [R] wc).setCell (p := ⟨R, 2, none⟩) (.inl (by simp)) (.int .i64 (r + cN))) (Nat.le_trans hC2 far4.size) (by have := h9.n1; simp; omega) (by have := h9.n2; simp; omega) (by intro k hk; simp at hk; omega))
          have HCELL5 : Hid (∀ i v, (pcs H1)[i]? = some v → (wc.setCell ⟨R, 2, none⟩ (.int .i64 (r + cN))).cell? ⟨hb, ho + i, none⟩ = some v) := Lib.hid (fun i v hi => (World.cell?_setCell_other wc ⟨R, 2, none⟩ ⟨hb, ho + i, none⟩ _ (by intro e; injection e with e; have := HNB.out; omega)).trans (HCELL4.out i v hi))
          have HFAR5 : Hid (Far [R, Fr, Br, g] w (wc.setCell ⟨R, 2, none⟩ (.int .i64 (r + cN)))) := Lib.hid (((HFAR.out.trans (Far.of_below HB2.out)).trans (far4.mono (fun k _ hk => by simp at hk ⊢; omega))).setCell (p := ⟨R, 2, none⟩) (.inl (by simp)) _)
          have HFRAG := Lib.hid fr
          clear rd4 bg4 far4 fr h9 c0 c2
          by_cases hA : r + cN < o1 + z1 ∨ q1 = 0
          · obtain ⟨s1, s2⟩ := HFRAG.out.stay (hA.elim .inl (fun h => .inr (List.eq_nil_of_length_eq_zero (HQ1.out.trans h))))
            have HS1 := Lib.hid s1
            have HS2 := Lib.hid s2
            have HNC := Lib.hid (show H1.length ≤ c by have := HH1.out; omega)
            clear s1 s2
            rcases hA with hA | hA
            · by_cases hcap : c' = cN
              all_goals
                go_wp2
                go_roundw
                case rel => exact ⟨j + cN, _, c' - cN, r + cN, H1, D2, (o1, z1), T1, _, _, by have := HJ.out; omega, by have := HJ.out; omega, by have := HJ.out; omega, rfl, rfl, (fun h => by first | exact ⟨rfl, rfl⟩ | omega), HS1.out, HS2.out, HEN.out, hl1, ⟨⟨hb, ho, c, HR5.out, HNC.out, HNB.out.1, HNB.out.2.1, HNB.out.2.2.1, HNB.out.2.2.2, HCELL5.out⟩, HRD5.out⟩, HBG5.out, HFAR5.out⟩
                case measure => simp [lenOf]; omega
            · by_cases hfull : o1 + z1 ≤ r + cN
              · have hq0 : (q1 : Int) ≤ 0 := by omega
                by_cases hcap : c' = cN
                all_goals
                  go_wp2
                  go_roundw
                  case rel => exact ⟨j + cN, _, c' - cN, r + cN, H1, D2, (o1, z1), T1, _, _, by have := HJ.out; omega, by have := HJ.out; omega, by have := HJ.out; omega, rfl, rfl, (fun h => by first | exact ⟨rfl, rfl⟩ | omega), HS1.out, HS2.out, HEN.out, hl1, ⟨⟨hb, ho, c, HR5.out, HNC.out, HNB.out.1, HNB.out.2.1, HNB.out.2.2.1, HNB.out.2.2.2, HCELL5.out⟩, HRD5.out⟩, HBG5.out, HFAR5.out⟩
                  case measure => simp [lenOf]; omega
              · by_cases hcap : c' = cN
                all_goals
                  go_wp2
                  go_roundw
                  case rel => exact ⟨j + cN, _, c' - cN, r + cN, H1, D2, (o1, z1), T1, _, _, by have := HJ.out; omega, by have := HJ.out; omega, by have := HJ.out; omega, rfl, rfl, (fun h => by first | exact ⟨rfl, rfl⟩ | omega), HS1.out, HS2.out, HEN.out, hl1, ⟨⟨hb, ho, c, HR5.out, HNC.out, HNB.out.1, HNB.out.2.1, HNB.out.2.2.1, HNB.out.2.2.2, HCELL5.out⟩, HRD5.out⟩, HBG5.out, HFAR5.out⟩
                  case measure => simp [lenOf]; omega
          · have hq3 : 1 ≤ q1 := by omega
            have hq4 : (1 : Int) ≤ (q1 : Int) := by omega
            have hfull : o1 + z1 ≤ r + cN := by omega
            have hT1 : T1 ≠ [] := fun e => by have := HQ1.out; rw [e] at this; simp at this; omega
            obtain ⟨xh, T', s1, s2, s3⟩ := HFRAG.out.next (show r + cN = o1 + z1 by omega) hT1 (show o1 ≤ r + cN by omega)
            have HS1 := Lib.hid s1
            have HS2 := Lib.hid s2
            have HS3 := Lib.hid (s3.trans HEN.out)
            have HQ := HQ1.out
            have hl2 : T1.length ≤ 1000000 := by have := HH1.out; omega
            have hc1' : ¬ c = 1 := by have := HH1.out; omega
            have HNC := Lib.hid (show T1.length ≤ c - 1 by have := HH1.out; omega)
            have HPC : Hid (pcs H1 = .int .i64 o1 :: .int .i64 z1 :: pcs T1) := Lib.hid (by rw [HOK.out.e]; rfl)
            have HR6 := Lib.hid (HR5.out.set_ 1 (.slice (some ⟨hb, ho + 2, none⟩) q1 (c - 1)))
            have HBG6 := Lib.hid (HBG5.out.far (p := ⟨R, 1, none⟩) hgR (.slice (some ⟨hb, ho + 2, none⟩) q1 (c - 1)))
            have h9 := HV.out
            have HRD6 := Lib.hid (HRD5.out.of_far ((Far.refl [R] _).setCell (p := ⟨R, 1, none⟩) (.inl (by simp)) (.slice (some ⟨hb, ho + 2, none⟩) q1 (c - 1))) (Nat.le_trans hC HFAR5.out.size) (by have := h9.n1; simp; omega) (by have := h9.n2; simp; omega) (by intro k hk; simp at hk; omega))
            have HCELL6 : Hid (∀ i v, (pcs T1)[i]? = some v → ((wc.setCell ⟨R, 2, none⟩ (.int .i64 (r + cN))).setCell ⟨R, 1, none⟩ (.slice (some ⟨hb, ho + 2, none⟩) q1 (c - 1))).cell? ⟨hb, ho + 2 + i, none⟩ = some v) := Lib.hid (fun i v hi => (World.cell?_setCell_other _ ⟨R, 1, none⟩ ⟨hb, ho + 2 + i, none⟩ _ (by intro e; injection e with e; have := HNB.out; omega)).trans (by
              have := HCELL5.out (i + 2) v (by rw [HPC.out]; exact hi)
              rw [show ho + 2 + i = ho + (i + 2) by omega]
              exact this))
            have HFAR6 := Lib.hid (HFAR5.out.setCell (p := ⟨R, 1, none⟩) (.inl (by simp)) (.slice (some ⟨hb, ho + 2, none⟩) q1 (c - 1)))
            clear s1 s2 s3 h9 hT1
            have HQH := Lib.hid HQ
            clear HQ
            by_cases hcap : c' = cN
            all_goals
              go_wp2
              go_roundw
              case rel => exact ⟨j + cN, _, c' - cN, r + cN, T1, D2, xh, T', _, _, by have := HJ.out; omega, by have := HJ.out; omega, by have := HJ.out; omega, rfl, rfl, (fun h => by first | exact ⟨rfl, rfl⟩ | omega), HS1.out, HS2.out, HS3.out, hl2, ⟨⟨hb, ho + 2, c - 1, by rw [HQH.out]; exact HR6.out, HNC.out, HNB.out.1, HNB.out.2.1, HNB.out.2.2.1, HNB.out.2.2.2, HCELL6.out⟩, HRD6.out⟩, HBG6.out, HFAR6.out⟩
              case measure => simp [lenOf]; omega
      · obtain rfl : m = 0 := by omega
        have h9 := HV.out
        have HE1 := Lib.hid (HE.out.below (far1.below (B := B) (by intro k hk; simp at hk; have := h9.bR; have := h9.bF; have := h9.bB; have := h9.cR; omega) (by have := h9.bR; have := h9.cR; omega)) (Nat.le_refl _))
        have kE := HE1.out.cell
        unfold errV at kE
        obtain ⟨l1', l2', l3'⟩ := ok1.last
        obtain ⟨q1, hq1⟩ : ∃ q1, T1.length = q1 := ⟨_, rfl⟩
        have hH1 : H1.length = q1 + 1 := by rw [ok1.e, ← hq1]; rfl
        rw [hq1] at l1' l2' l3'
        obtain ⟨x', hx'⟩ : ∃ x', po H1 q1 = x' := ⟨_, rfl⟩
        obtain ⟨y', hy'⟩ : ∃ y', pl H1 q1 = y' := ⟨_, rfl⟩
        have e1' := hcell _ _ (pcs_get1 H1 q1 (by omega))
        have e2' := hcell _ _ (pcs_get2 H1 q1 (by omega))
        rw [hx'] at l1' l3' e1'
        rw [hy'] at l2' l3' e2'
        rw [← Nat.add_assoc] at e2'
        have hRw : R < wr.heap.size := b1.lt
        have lb' := ok1.big
        have le' := ok1.le_end
        have p0' := ok1.p0
        have p1' := ok1.p1
        have c0 : wr.cell? ⟨R, 0, none⟩ = some (.iface 74 (.pointer (some ⟨Fr, 0, none⟩))) := by rw [b1.cell]; rfl
        have c1 : wr.cell? ⟨R, 1, none⟩ = some (.slice (some ⟨hb, ho, none⟩) (q1 + 1) c) := by rw [← hH1, b1.cell]; rfl
        have HLOG1 : Hid (Calls Tryd.prog 35 #[.agg #[.iface 74 (.pointer (some ⟨Fr, 0, none⟩)), .slice (some ⟨hb, ho, none⟩) (q1 + 1) c, .int .i64 r]] wr (Fresh (.int .i64 (x' + y' - r)) wr)) :=
          Lib.hid (logical Fr hb ho q1 c x' y' r wr e1' e2' (by omega) (by omega) (by have := HNB.out; omega) l1' (by omega) l2' (by omega) p0' (by omega))
        obtain ⟨A9, N9, cc9, i9, all9, bb1, bb2, bb3⟩ := at1.rd.ex
        have f0 : wr.cell? ⟨Fr, 0, none⟩ = some (.iface 75 (.pointer (some ⟨Br, 0, none⟩))) := by rw [bb1.cell]; rfl
        have f1 : wr.cell? ⟨Fr, 1, none⟩ = some (.int .i64 D1.length) := by rw [bb1.cell]; rfl
        have hFw : Fr < wr.heap.size := bb1.lt
        have hxy : x' + y' = x + y := by rw [← l3', en1, HL3.out]
        have HXY := Lib.hid hxy
        have HP : Hid (x' + y' - r = 0 → D1.length = 0) := Lib.hid (fun h0 => by
          have := ok1.at_end (by rw [l3']; omega)
          rw [this]; rfl)
        have heq := fun w => run_eql_iface_nil_left (P := Tryd.prog) w 100 (.pointer (some a)) Tryd.underlying53
        have hJ := HJ.out
        have hjL' : j = L := by omega
        have hrL : r = p + L := by omega
        have hLm := HLL.out
        have hA1 := hJ.2.1
        have HAT := Lib.hid at1
        have HEND : Hid (∀ w', Far [R, Fr, Br, g] wr w' → (∀ k, k < wr.heap.size → w'.heap[k]? = wr.heap[k]?) → SpReadPost C R Fr Br g N a p H D w (.returned (.tuple #[.int .i64 L, eofV a fin])) w') := by
          show ∀ w', _
          intro w' hf hsame
          have hb' : Below wr.heap.size wr w' := ⟨hf.os, hf.tape, hf.output, hf.size, hsame⟩
          have e9 : x + y = hend H := HL3.out.symm
          refine ⟨L, H1, D1, h1, T1, by rw [← e9]; omega, ?_, by rw [← hrL]; exact HOK.out, by rw [← hrL]; have := HSTR.out; rw [hjL'] at this; exact this, HEN.out, hl1, ?_, ?_, HFAR.out.trans hf⟩
          · rw [← e9, HFIN.out]
          · rw [← hrL]
            exact ⟨⟨hb, ho, c, (HB1.out.below hb' hRw), hc, HNB.out.1, HNB.out.2.1, HNB.out.2.2.1, HNB.out.2.2.2, fun i v hi => (hb'.cell (p := ⟨hb, ho + i, none⟩) (show hb < _ by have := HNB.out; omega)).trans (HCELL.out i v hi)⟩, HRD.out.of_far (Far.of_below (S := []) hb') hCr (by simp) (by simp) (by simp)⟩
          · have := HG1.out.below hb' HG1.out.lt
            rw [hjL', show n = N - L by omega] at this
            exact this
        have HJL := Lib.hid hjL'
        have HRL := Lib.hid hrL
        have hrI : r ≤ p + L := by omega
        have hrI2 : p + L ≤ r := by omega
        clear b1 hcell at1 bg1 far1 ok1 st1 en1 hA' h9 hq1 hH1 hx' hy' l3' e1' e2' bb1 bb2 bb3 hxy hJ hjL' hrL hLm hA1
        cases fin
        · have hne : (x' + y' - r == 0) = false := by have h1 := HFIN.out; have h2 := HXY.out; have h3 := HLL.out; have h4 := HRL.out; simp at h1; rw [beq_eq_false_iff_ne]; omega
          go_wp2_with (go_at_call 35; refine HLOG1.out.mono ?_; rintro e w3 ⟨rfl, hb3⟩)
          go_ret2
          exact HEND.out _ (Far.of_below hb3) (fun k hk => hb3.block k hk)
        · have hne : (x' + y' - r == 0) = true := by have h1 := HFIN.out; have h2 := HXY.out; have h3 := HLL.out; have h4 := HRL.out; simp at h1; rw [beq_iff_eq]; omega
          have hD0 := HP.out (by simpa using hne)
          rw [hD0] at f1
          have HD0 := Lib.hid hD0
          clear hD0
          go_wp2_with (first
            | (go_at_call 35; refine HLOG1.out.mono ?_; rintro e w3 ⟨rfl, hb3⟩; have g0 := (hb3.cell (p := ⟨R, 0, none⟩) hRw).trans c0; have g1 := (hb3.cell (p := ⟨R, 1, none⟩) hRw).trans c1; have g2 := (hb3.cell (p := ⟨R, 2, none⟩) hRw).trans c2; have g3 := (hb3.cell (p := ⟨Fr, 0, none⟩) hFw).trans f0; have g4 := (hb3.cell (p := ⟨Fr, 1, none⟩) hFw).trans f1)
            | (go_at_call 38; refine (physical Fr Br _ _ _ _ _ _ (by assumption) (by assumption)).mono ?_; rintro e w4 ⟨rfl, hb4⟩))
          have hb34 := hb3.trans (hb4.mono hb3.size)
          have hgE : 2 < wr.heap.size := Nat.lt_of_lt_of_le (HE1.out.lg) (by have h9 := HV.out; have := h9.bR; omega)
          have kE4 := (hb34.cell (p := ⟨2, 0, none⟩) hgE).trans kE
          have HB34 := Lib.hid hb34
          clear kE g0 g1 g2 g3 g4 hb3 hb4 hb34
          go_region_held3 (fun w' => w'.cell? ⟨2, 0, none⟩ = some (.iface 100 (.pointer (some a)))) (go_keep) (fail)
          go_wp2
          go_ret2
          exact HEND.out _ (Far.of_below HB34.out.drew) (fun k hk => HB34.out.drew.block k hk)
end Go.Proofs.YtiahifohkhdmdaaDoor
