/- spec.padded, spec.filled, spec.Map10: their walks. -/
import Derived.Test.YtlchagphjmfooaaDoorZer
import Derived.Test.YtlchagphjmfooaaDoorMap1
import Derived.Test.YtlchagphjmfooaaDoorByW
import Derived.Test.YtlchagphjmfooaaDoorBr
import Derived.Test.YtlchagphjmfooaaDoorMap2
namespace Go.Proofs.YtlchagphjmfooaaDoor
open Go.RowKit Go.PlainAid
set_option linter.unusedVariables false

theorem wpList_append_zeros {P : Program} (w : World) {ops : Array Oper} {rest : List Oper} {o : Oper} {a : Act} {Q : Exit → Act → World → Prop} (hgd : o.guard = none) (s x : Operand) (t tn : TypeId)
    (ho : o.op = .call { callee := .builtin .append, args := #[s, x], argTypes := #[t, tn] })
    (base : Nat) (e : TypeId) (kn : IntKind) (ht : P.underlying t = some (.slice e)) (htn : P.underlying tn = some (.int kn)) (hinfo : (P.info? e).map (fun i => (i.zero, i.size, i.bytes)) = some (some (.int .u8 0), 1, 1))
    (v : Value) (n : Nat) (xs : List Value) (hs : a.eval s = v) (hown : w.ownsRow base e 1 v n xs) (k : Nat) (hx : a.eval x = .int .i64 k) (h48 : n + k ≤ 140737488355328) (hbase : base ≤ w.heap.size)
    (hK : ∀ v' w', Hid (w'.ownsRow base e 1 v' (n + k) (xs ++ List.replicate k (.int .u8 0))) → Hid (w.grownBy w' v.ownBlock) → wpList P ops Q rest (a.put o.dst v') w') : wpList P ops Q (o :: rest) a w := by
  obtain ⟨i, hi, hz0, hz1, hz2⟩ := info_parts hinfo
  refine wpList_plain hgd fun K hK' => ?_
  obtain ⟨v', w', hr, h2, h3⟩ := run_append_own_zeros (P := P) w base t tn o.type e i kn ht htn hi hz0 hz1 hz2 v n xs hown k h48 hbase
  unfold Oper.wp execOp
  simp only [ho, resolve, invoke, builtin, Sem.run_bind, Sem.run_pure, Result.andThen_ok, List.map_toArray, List.map_cons, List.map_nil, hs, hx, hr]
  exact hK' _ _ (hK v' w' h2 h3)
def pad (m : Nat) : Nat := (m + 511) / 512 * 512
theorem pad_ge (m : Nat) : m ≤ pad m := by unfold pad; omega
theorem pad_le (m : Nat) : pad m ≤ m + 511 := by unfold pad; omega
set_option maxRecDepth 20000 in
set_option maxHeartbeats 400000 in
theorem specPadded (m : Nat) (w : World) (hm : m ≤ 70368744177664) :
    Calls Tryd.prog 69 #[.int .i64 m] w fun e w' => e = .returned (.int .i64 (pad m : Nat)) ∧ w = w' := by
  have u1 : IntKind.i64.wrap ((m : Int) + 511) = (m : Int) + 511 := IntWalk.i64_in _ (by omega)
  obtain ⟨q, hq⟩ : ∃ q, (m + 511) / 512 = q := ⟨_, rfl⟩
  have hp : pad m = q * 512 := by unfold pad; rw [hq]
  have u2 : ((m : Int) + 511).tdiv 512 = (q : Int) := by rw [Int.tdiv_eq_ediv_of_nonneg (by omega)]; omega
  have u3 : IntKind.i64.wrap ((q : Int)) = (q : Int) := IntWalk.i64_in _ (by omega)
  have u4 : IntKind.i64.wrap ((q : Int) * 512) = (q : Int) * 512 := IntWalk.i64_in _ (by omega)
  have u5 : ((pad m : Nat) : Int) = (q : Int) * 512 := by rw [hp]; omega
  have HU := Lib.hid u5
  clear hq hp u5
  go_enter Tryd.func69, Tryd.ntmps69
  go_wp2
  go_ret
  exact ⟨(by rw [HU.out]; rfl), rfl⟩
theorem bys_cat (a b : List UInt8) : bys (a ++ b) = bys a ++ bys b := by simp [bys]
def MadeB (D : List UInt8) (w : World) (e : Ending) (w' : World) : Prop :=
  ∃ v, e = .returned v ∧ w'.ownsRow w.heap.size 5 1 v D.length (bys D) ∧ Below w.heap.size w w'
set_option maxRecDepth 20000 in
set_option maxHeartbeats 800000 in
theorem specFilled (A : Option Addr) (n c B : Nat) (D : List UInt8) (w : World) (hn : D.length = n) (hr : RB w B A D) (hB : B ≤ w.heap.size) (hbig : n ≤ 70368744177664) :
    Calls Tryd.prog 48 #[.slice A n c] w (MadeB (D ++ zbs (pad n - n)) w) := by
  have HR := Lib.hid (RC.of_RB hr)
  have HN := Lib.hid hn
  have HLB : Hid ((bys D).length = n * 1) := Lib.hid (by rw [length_bys, hn]; omega)
  have HP1 := pad_ge n
  have HP2 := pad_le n
  obtain ⟨p, hp⟩ : ∃ p, pad n = p := ⟨_, rfl⟩
  obtain ⟨z, hz⟩ : ∃ z, p - n = z := ⟨_, rfl⟩
  rw [hp] at HP1 HP2
  have HPD := fun w => Lib.hid (specPadded n w hbig)
  rw [hp] at HPD
  rw [hp, hz]
  have u1 : IntKind.i64.wrap ((p : Int) - (n : Int)) = (z : Int) := by rw [IntWalk.i64_in _ (by omega)]; omega
  have hz9 : z ≤ 511 := by omega
  clear hr hn hp hz
  go_enter Tryd.func48, Tryd.ntmps48
  go_wp2_with (at_builtin; refine wpList_append_rc (o := ⟨some 4, _, _, _, _, _⟩) _ rfl (.const (.slice none 0 0)) (.tmp 3) _ rfl w.heap.size 5 _ 1 1 Tryd.underlying62 u8info rfl (by omega) _ 0 [] rfl (World.ownsRow_nil _ _ _ _) A n c B (bys D) rfl HLB.out HR.out (bys_one D) (by omega) (by omega) (Nat.le_refl _) ?_)
  intro v' w1 h1 h2 h3
  have H1 : Hid (w1.ownsRow w.heap.size 5 1 v' n (bys D)) := Lib.hid (by simpa using h1.out)
  have HB1 : Hid (Below w.heap.size w w1) := Lib.hid ((Below.refl _ _).grown h2.out (Nat.le_refl _) (fun g hg => by cases hg))
  clear h1 h2 h3
  go_wp2_with (first
    | (go_at_call 69; refine (HPD _).out.mono ?_; rintro e w' ⟨rfl, rfl⟩)
    | (at_builtin; refine wpList_append_zeros (o := ⟨some 11, _, _, _, _, _⟩) _ rfl (.tmp 4) (.tmp 10) _ _ rfl w.heap.size 5 .i64 Tryd.underlying62 Tryd.underlying2 u8info _ n _ rfl H1.out z rfl (by omega) HB1.out.size ?_))
  intro v2 w2 h1 h2
  have H2 : Hid (w2.ownsRow w.heap.size 5 1 v2 (D ++ zbs z).length (bys (D ++ zbs z))) := Lib.hid (by
    have h := h1.out
    rw [bys_cat, List.length_append, length_zbs, HN.out, bys_zbs]
    exact h)
  have HB2 : Hid (Below w.heap.size w w2) := Lib.hid (HB1.out.grown h2.out HB1.out.size (fun g hg => (H1.out.lt g hg).1))
  clear h1 h2
  go_wp2
  go_ret
  exact ⟨v2, rfl, H2.out, HB2.out⟩
/-- Tokens, each behind by a newline. -/
def ln : List (List UInt8) → List UInt8
  | [] => []
  | a :: r => a ++ 10 :: ln r
theorem ln_append : ∀ a b : List (List UInt8), ln (a ++ b) = ln a ++ ln b
  | [], b => rfl
  | x :: a, b => by simp [ln, ln_append a b]
theorem ln_le : ∀ L : List (List UInt8), (∀ l ∈ L, l.length ≤ 19) → (ln L).length ≤ 20 * L.length
  | [], _ => by simp [ln]
  | a :: r, h => by
    have h1 := ln_le r (fun l hl => h l (by simp [hl]))
    have h2 := h a (by simp)
    simp only [ln, List.length_append, List.length_cons]
    omega
/-- The tokens of a map. -/
def toks (n : Nat) (ps : List (Int × Int)) : List (List UInt8) := numL n :: nmL ps
theorem toks_le {ps : List (Int × Int)} {n : Nat} (h : SmallP ps) (hn : n ≤ 100) : (ln (toks n ps)).length ≤ 4020 := by
  have h1 := ln_le (toks n ps) (fun l hl => by
    unfold toks at hl
    rcases List.mem_cons.1 hl with h | h
    · rw [h]; exact numL_le19 (by omega)
    · exact SmallP.mem (by assumption) l h)
  have h2 : (toks n ps).length = ps.length * 2 + 1 := by unfold toks; rw [List.length_cons, nmL_len]
  have := h.1
  omega
theorem toks_next {n k : Nat} {ps : List (Int × Int)} {O M : Nat} (hk : k < ps.length) (hO : po ps k = (O : Int)) (hM : pl ps k = (M : Int)) :
    mkS (ln (toks n (ps.take (k + 1)))) = mkS (ln (toks n (ps.take k))) ++ (numB O ++ ⟨#[10]⟩ ++ numB M ++ ⟨#[10]⟩) := by
  have e10 : (⟨#[10]⟩ : ByteArray) = mkS [10] := rfl
  have e1 : toks n (ps.take (k + 1)) = toks n (ps.take k) ++ [numL O, numL M] := by
    unfold toks
    rw [nmL_take ps k hk, hO, hM]
    rfl
  rw [e1, ln_append]
  show _ = _ ++ (mkS (numL O) ++ _ ++ mkS (numL M) ++ _)
  rw [e10, mkS_cat, mkS_cat, mkS_cat, mkS_cat]
  simp [ln]
/-- The map in front of the data. -/
def map10 (ps : List (Int × Int)) : List UInt8 := ln (toks ps.length ps) ++ zbs (pad (ln (toks ps.length ps)).length - (ln (toks ps.length ps)).length)

set_option maxRecDepth 20000 in
set_option maxHeartbeats 3200000 in
theorem specMap10 (A : Option Addr) (n c B : Nat) (ps : List (Int × Int)) (w : World) (hn : ps.length = n) (hr : RC w B A (pcs ps)) (hB : B ≤ w.heap.size) (hS : SmallP ps) :
    Calls Tryd.prog 29 #[.slice A n c] w (MadeB (map10 ps) w) := by
  have HN := Lib.hid hn
  have HR := Lib.hid hr
  have HS := Lib.hid hS
  have hn100 : n ≤ 100 := by have := hS.1; omega
  clear hn hr hS
  obtain ⟨Z, hZ⟩ : ∃ Z, numB n = Z := ⟨_, rfl⟩
  have hz : Z.size ≤ 19 := by rw [← hZ, numB_size]; exact numL_le19 (by omega)
  have HZ := Lib.hid hZ
  have HS0 : Hid (Z ++ ⟨#[10]⟩ = mkS (ln (toks n (ps.take 0)))) := Lib.hid (by
    rw [← hZ]
    show mkS (numL n) ++ mkS [10] = _
    rw [mkS_cat]
    simp [toks, nmL, ln])
  have hz1 : (⟨#[10]⟩ : ByteArray).size = 1 := rfl
  have z0 : ¬ 9223372036854775807 < Z.size + 1 := by omega
  have z1 : ¬ 9223372036854775806 < Z.size := by omega
  clear hZ
  go_enter Tryd.func29, Tryd.ntmps29
  go_wp2_with fail
  refine (number_nat n w (by omega)).mono ?_
  rw [HZ.out]
  rintro e w1 ⟨rfl, hb1⟩
  have HB1 := Lib.hid hb1
  clear hb1
  go_wp2
  go_loopw [3, 12] (fun s i wr => ∃ (k : Nat) (t : ByteArray), k ≤ n ∧ i = .int .i64 k ∧ s = .string t ∧ Hid (t = mkS (ln (toks n (ps.take k)))) ∧ Hid (Below w.heap.size w wr)) (fun _ i _ => n - (intOf i).toNat)
  case atStart => exact ⟨0, _, by omega, rfl, rfl, HS0, HB1⟩
  case round =>
    obtain ⟨k, t, hk, rfl, rfl, hT, hW⟩ := hrel
    have hts : t.size ≤ 4020 := by rw [hT.out, mkS_len]; exact toks_le (HS.out.take k) hn100
    by_cases hlt : k < n
    · obtain ⟨b, off, rfl, _, hc1, hc2⟩ := (HR.out.below (hW.out.mono hB)).piece (k := k) (by rw [HN.out]; exact hlt)
      have hsm := HS.out.2 k (by rw [HN.out]; exact hlt)
      obtain ⟨O, hO⟩ : ∃ O : Nat, po ps k = (O : Int) := ⟨(po ps k).toNat, by omega⟩
      obtain ⟨M, hM⟩ : ∃ M : Nat, pl ps k = (M : Int) := ⟨(pl ps k).toNat, by omega⟩
      have hO6 : O ≤ 1000000 := by omega
      have hM6 : M ≤ 1000000 := by omega
      have HNX := Lib.hid (toks_next (n := n) (by rw [HN.out]; exact hlt) hO hM)
      rw [hO] at hc1
      rw [hM] at hc2
      have HCB := Lib.hid (Blk.new wr 53 [.int .i64 (O : Int), .int .i64 (M : Int)])
      have HW1 := Lib.hid (hW.out.alloc (o := .cells #[.int .i64 (O : Int), .int .i64 (M : Int)] 53) hW.out.size)
      obtain ⟨X, hX⟩ : ∃ X, numB O = X := ⟨_, rfl⟩
      obtain ⟨Y, hY⟩ : ∃ Y, numB M = Y := ⟨_, rfl⟩
      have hx : X.size ≤ 19 := by rw [← hX, numB_size]; exact numL_le19 (by omega)
      have hy : Y.size ≤ 19 := by rw [← hY, numB_size]; exact numL_le19 (by omega)
      have HX := Lib.hid hX
      have HY := Lib.hid hY
      have n1b : ¬ 9223372036854775807 < X.size + 1 := by omega
      have n1c : ¬ 9223372036854775806 < X.size := by omega
      have n2 : ¬ 9223372036854775807 < X.size + 1 + Y.size := by omega
      have n2b : ¬ 9223372036854775807 < X.size + 1 + Y.size + 1 := by omega
      have n2c : ¬ 9223372036854775806 < X.size + 1 + Y.size := by omega
      have n4 : ¬ 9223372036854775807 < t.size + (X.size + 1 + Y.size + 1) := by omega
      rw [hX, hY] at HNX
      clear hsm hO hM hX hY
      have HE : Hid (mkS (ln (toks n (ps.take (k + 1)))) = t ++ (X ++ ⟨#[10]⟩ ++ Y ++ ⟨#[10]⟩)) := Lib.hid (by rw [HNX.out, hT.out])
      go_wp2
      generalize wr.alloc (.cells #[.int .i64 (O : Int), .int .i64 (M : Int)] 53) = w2 at HCB HW1 ⊢
      generalize wr.heap.size = pb at HCB ⊢
      have c0 : w2.cell? ⟨pb, 0, none⟩ = some (.int .i64 (O : Int)) := by rw [HCB.out.cell]; rfl
      have c1 : w2.cell? ⟨pb, 1, none⟩ = some (.int .i64 (M : Int)) := by rw [HCB.out.cell]; rfl
      have HS0 := Lib.hid (show w2.cell? ⟨pb, 0, none⟩ = some (.int .i64 (O : Int)) ∧ w2.cell? ⟨pb, 1, none⟩ = some (.int .i64 (M : Int)) ∧ pb < w2.heap.size ∧ Below w.heap.size w w2 from ⟨c0, c1, HCB.out.lt, HW1.out⟩)
      go_region_held3 (fun w' => w'.cell? ⟨pb, 0, none⟩ = some (.int .i64 (O : Int)) ∧ w'.cell? ⟨pb, 1, none⟩ = some (.int .i64 (M : Int)) ∧ pb < w'.heap.size ∧ Below w.heap.size w w') (first | exact HS0.out | exact keepS (Nat.le_refl _) hb (by assumption) | assumption | exact keepS0 (by assumption))
        (first
        | (go_at_call 40; refine (number_nat _ _ (by omega)).mono ?_; (first | rw [HX.out] | rw [HY.out]); rintro e w' ⟨rfl, hb⟩))
      have HBW : Hid (Below w.heap.size w w') := Lib.hid (by have hS9 : w'.cell? ⟨pb, 0, none⟩ = some (.int .i64 (O : Int)) ∧ w'.cell? ⟨pb, 1, none⟩ = some (.int .i64 (M : Int)) ∧ pb < w'.heap.size ∧ Below w.heap.size w w' := by assumption
                                                             exact hS9.2.2.2)
      go_wp2
      go_roundw
      case rel => exact ⟨k + 1, _, by omega, by go_num, rfl, Lib.hid HE.out.symm, HBW⟩
      case measure => simp [intOf]; omega
    · obtain rfl : k = n := by omega
      have HT2 : Hid (t.data.toList = ln (toks ps.length ps)) := Lib.hid (by rw [hT.out, mkS_list, HN.out, List.take_of_length_le (by rw [HN.out]; exact Nat.le_refl _)])
      have hcv := Lib.run_convert_string_bytes (P := Tryd.prog) wr 9 62 5 t (u := .string) Tryd.underlying9 Tryd.underlying62 Tryd.underlying5
      have HFI := fun c => Lib.hid (specFilled (some ⟨wr.heap.size, 0, none⟩) t.size c _ t.data.toList (Lib.bytesWorld wr 5 t) (Lib.size_eq t).symm (bytesRow wr t) (bytesWorld_size wr t) (by omega))
      have HBY : Hid (Below w.heap.size w (Lib.bytesWorld wr 5 t)) := Lib.hid (hW.out.trans ((bytesWorld_below wr _ t).mono hW.out.size))
      have HEQ : Hid (t.data.toList ++ zbs (pad t.size - t.size) = map10 ps) := Lib.hid (by unfold map10; rw [Lib.size_eq, HT2.out])
      obtain ⟨w2, hw2⟩ : ∃ w2, w2 = Lib.bytesWorld wr 5 t := ⟨_, rfl⟩
      rw [← hw2] at hcv HFI HBY
      clear hw2
      go_wp2_with fail
      refine (HFI _).out.mono ?_
      rw [HEQ.out]
      rintro e w3 ⟨v, rfl, ho, hb3⟩
      have HO := Lib.hid (own_base ho HBY.out.size)
      have HB3 := Lib.hid (HBY.out.trans (hb3.mono HBY.out.size))
      obtain ⟨A3, c3, rfl, _, _, _⟩ := own_form ho
      clear ho hb3
      go_wp2
      go_ret
      exact ⟨_, rfl, HO.out, HB3.out⟩
end Go.Proofs.YtlchagphjmfooaaDoor
