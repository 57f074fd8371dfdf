/- The walk of laws.pieces: pieces of a file made out of numbers. -/
import Derived.Test.YtlchagphjmfooaaDoorVe
import Derived.Test.YtlchagphjmfooaaDoorNums
import Derived.Test.YtlchagphjmfooaaDoorR
import Derived.Test.YtlchagphjmfooaaDoorBelow
import Derived.Deep.CutBlock
import Derived.Deep.DeepCutAuto
namespace Go.Proofs.YtlchagphjmfooaaDoor
open Go.RowKit

/-- The lengths of the first k pieces together. -/
def suml (ps : List (Int × Int)) : Nat → Int
  | 0 => 0
  | k + 1 => suml ps k + pl ps k
/-- Piece j is behind the one before it, and not empty. -/
def okG (ps : List (Int × Int)) (j : Nat) : Prop := ve ps j ≤ po ps j ∧ po ps j ≤ ve ps j + 699 ∧ 1 ≤ pl ps j ∧ pl ps j ≤ 300
/-- What laws.pieces makes: the pieces, a size that holds them, and their lengths together. -/
structure Gen (ps : List (Int × Int)) (sz all : Int) : Prop where
  len : ps.length ≤ 100
  ok : ∀ j, j < ps.length → okG ps j
  all_ : all = suml ps ps.length
  small : all ≤ 65536
  end_ : ve ps ps.length ≤ 131072
  lo : ve ps ps.length ≤ sz
  hi : sz ≤ ve ps ps.length + 199
theorem getD_prefix (a b : List (Int × Int)) (k : Nat) (h : k < a.length) : (a ++ b).getD k (0, 0) = a.getD k (0, 0) := by
  simp [List.getD, List.getElem?_append_left h]
theorem po_prefix (a b : List (Int × Int)) (k : Nat) (h : k < a.length) : po (a ++ b) k = po a k := by unfold po; rw [getD_prefix a b k h]
theorem pl_prefix (a b : List (Int × Int)) (k : Nat) (h : k < a.length) : pl (a ++ b) k = pl a k := by unfold pl; rw [getD_prefix a b k h]
theorem po_last (a : List (Int × Int)) (p : Int × Int) : po (a ++ [p]) a.length = p.1 := by simp [po, List.getD]
theorem pl_last (a : List (Int × Int)) (p : Int × Int) : pl (a ++ [p]) a.length = p.2 := by simp [pl, List.getD]
theorem ve_prefix (a b : List (Int × Int)) (k : Nat) (h : k ≤ a.length) : ve (a ++ b) k = ve a k := by
  cases k with
  | zero => rfl
  | succ k => rw [ve, ve, po_prefix a b k (by omega), pl_prefix a b k (by omega)]
theorem ve_last (a : List (Int × Int)) (p : Int × Int) : ve (a ++ [p]) (a.length + 1) = p.1 + p.2 := by rw [ve, po_last, pl_last]
theorem suml_prefix (a b : List (Int × Int)) : ∀ k, k ≤ a.length → suml (a ++ b) k = suml a k
  | 0, _ => rfl
  | k + 1, h => by rw [suml, suml, suml_prefix a b k (by omega), pl_prefix a b k (by omega)]
theorem suml_last (a : List (Int × Int)) (p : Int × Int) : suml (a ++ [p]) (a.length + 1) = suml a a.length + p.2 := by
  rw [suml, suml_prefix a [p] a.length (Nat.le_refl _), pl_last]
theorem okG_snoc (a : List (Int × Int)) (p : Int × Int) (h : ∀ j, j < a.length → okG a j) (h1 : ve a a.length ≤ p.1 ∧ p.1 ≤ ve a a.length + 699 ∧ 1 ≤ p.2 ∧ p.2 ≤ 300) : ∀ j, j < (a ++ [p]).length → okG (a ++ [p]) j := by
  intro j hj
  rw [List.length_append, List.length_singleton] at hj
  unfold okG
  rw [ve_prefix a [p] j (by omega)]
  by_cases hja : j < a.length
  · rw [po_prefix a [p] j hja, pl_prefix a [p] j hja]
    exact h j hja
  · obtain rfl : j = a.length := by omega
    rw [po_last, pl_last]
    exact h1
theorem ve_okG (ps : List (Int × Int)) : ∀ k, (∀ j, j < k → okG ps j) → 0 ≤ ve ps k
  | 0, _ => Int.le_refl _
  | k + 1, h => by
    have h0 := ve_okG ps k (fun j hj => h j (by omega))
    have h1 := h k (by omega)
    unfold okG at h1
    rw [ve]
    omega
theorem suml_okG (ps : List (Int × Int)) : ∀ k, (∀ j, j < k → okG ps j) → 0 ≤ suml ps k
  | 0, _ => Int.le_refl _
  | k + 1, h => by
    have h0 := suml_okG ps k (fun j hj => h j (by omega))
    have h1 := h k (by omega)
    unfold okG at h1
    rw [suml]
    omega

/-- What laws.pieces leaves. -/
def Gens (w : World) (en : Ending) (w' : World) : Prop :=
  ∃ (ps : List (Int × Int)) (sz all : Int) (v : Value), en = .returned (.tuple #[v, .int .i64 sz, .int .i64 all]) ∧ Gen ps sz all ∧ w'.ownsRow w.heap.size 53 2 v ps.length (pcs ps) ∧ Below w.heap.size w w'

set_option maxRecDepth 20000 in
set_option maxHeartbeats 4000000 in
theorem pieces_any (A : Option Addr) (n c B : Nat) (ns : List Int) (w : World) (hn : ns.length = n) (hr : RC w B A (nums ns)) (hB : B ≤ w.heap.size) (hbig : n ≤ 2147483647) (hsm : Small ns) :
    Calls Tryd.prog 22 #[.slice A n c, .bool false] w (Gens w) := by
  have HN := Lib.hid hn
  have HR := Lib.hid hr
  have HS := Lib.hid hsm
  clear hn hr hsm
  go_enter Tryd.func22, Tryd.ntmps22
  go_upto_block 0 with fail
  go_cut [8, 9, 10] (fun v at_ all wr => ∃ ps : List (Int × Int), ps.length ≤ 100 ∧ at_ = .int .i64 (ve ps ps.length) ∧ all = .int .i64 (suml ps ps.length) ∧ Hid (∀ j, j < ps.length → okG ps j) ∧ suml ps ps.length ≤ 65536 ∧ ve ps ps.length ≤ 131072 ∧ wr.ownsRow w.heap.size 53 2 v ps.length (pcs ps) ∧ Below w.heap.size w wr)
  case first =>
    go_wp2
    go_loopw [8, 9, 10, 11] (fun v at_ all i wr => ∃ (ps : List (Int × Int)) (k j : Nat), ps.length = k ∧ k ≤ 100 ∧ j ≤ n ∧ i = .int .i64 j ∧ at_ = .int .i64 (ve ps k) ∧ all = .int .i64 (suml ps k) ∧ Hid (∀ j, j < ps.length → okG ps j) ∧ suml ps k ≤ 65536 ∧ ve ps k ≤ 131072 ∧ wr.ownsRow w.heap.size 53 2 v k (pcs ps) ∧ Below w.heap.size w wr) (fun _ _ _ i _ => n - (intOf i).toNat)
    case atStart => exact ⟨[], 0, 0, rfl, by omega, by omega, rfl, rfl, rfl, (show ∀ j, j < ([] : List (Int × Int)).length → _ from fun j hj => by simp at hj), (show (0 : Int) ≤ _ by omega), (show (0 : Int) ≤ _ by omega), World.ownsRow_nil _ _ _ _, Below.refl _ _⟩
    case round =>
      obtain ⟨ps, k, j, hpk, hk, hj, rfl, rfl, rfl, hok, hs1, hs2, hown, hb⟩ := hrel
      obtain ⟨A', c', rfl, _, _, hblk⟩ := own_form hown
      have HO := Lib.hid hown
      have HB := Lib.hid hb
      have HPK := Lib.hid hpk
      have e1 := ve_okG ps k (by rw [← hpk]; exact hok.out)
      have e2 := suml_okG ps k (by rw [← hpk]; exact hok.out)
      by_cases hgo : j + 1 < n ∧ k < 100
      · obtain ⟨hg1, hg2⟩ := hgo
        obtain ⟨b, off, hA, hbB, hc⟩ := HR.out.num (k := j) (by rw [HN.out]; omega)
        subst hA
        have hc1 := (hb.cell (p := ⟨b, off + j, none⟩) (Nat.lt_of_lt_of_le hbB hB)).trans (hc j (by rw [HN.out]; omega))
        have hc2 := (hb.cell (p := ⟨b, off + (j + 1), none⟩) (Nat.lt_of_lt_of_le hbB hB)).trans (hc (j + 1) (by rw [HN.out]; omega))
        obtain ⟨s1, s2⟩ := HS.out j
        obtain ⟨s3, s4⟩ := HS.out (j + 1)
        obtain ⟨m1, m2⟩ : 0 ≤ nv ns j % 700 ∧ nv ns j % 700 < 700 := by omega
        obtain ⟨m3, m4⟩ : 0 ≤ nv ns (j + 1) % 300 ∧ nv ns (j + 1) % 300 < 300 := by omega
        have hjj : (0 : Int) ≤ (j : Int) := by omega
        have hjn : (j : Int) < (n : Int) := by omega
        have hjn1 : (j : Int) + 1 < (n : Int) := by omega
        clear hc hown hb hblk hpk
        go_wp2
        have q1 : IntKind.i64.wrap ((j : Int) + 1) = (j : Int) + 1 := IntWalk.i64_in _ (by omega)
        have q2 : (0 : Int) ≤ (j : Int) + 1 := by omega
        have q3 : ((j : Int) + 1).toNat = j + 1 := by omega
        have q4 : IntKind.i64.wrap (ve ps k + nv ns j % 700) = ve ps k + nv ns j % 700 := IntWalk.i64_in _ (by omega)
        have q5 : IntKind.i64.wrap (nv ns j % 700) = nv ns j % 700 := IntWalk.i64_in _ (by omega)
        have q6 : IntKind.i64.wrap (1 + nv ns (j + 1) % 300) = 1 + nv ns (j + 1) % 300 := IntWalk.i64_in _ (by omega)
        go_region_held3 (fun w' => w'.cell? ⟨b, off + j, none⟩ = some (.int .i64 (nv ns j)) ∧ w'.cell? ⟨b, off + (j + 1), none⟩ = some (.int .i64 (nv ns (j + 1)))) (go_keep)
          ((go_at_call 21; refine (below_any _ _ _ (by omega) (by omega) (by omega) (by omega)).mono ?_; rintro e w' ⟨rfl, rfl⟩))
        all_goals
          rename_i hheld
          clear hheld q1 q2 q3 q4 q5 q6 hc1 hc2
          obtain ⟨o, ho⟩ : ∃ o, o = ve ps k + nv ns j % 700 := ⟨_, rfl⟩
          obtain ⟨l, hl⟩ : ∃ l, l = 1 + nv ns (j + 1) % 300 := ⟨_, rfl⟩
          rw [← ho, ← hl]
          have o1 : ve ps k ≤ o := by omega
          have o2 : o ≤ ve ps k + 699 := by omega
          have l1 : 1 ≤ l := by omega
          have l2 : l ≤ 300 := by omega
          clear ho hl m1 m2 m3 m4 s1 s2 s3 s4
          obtain ⟨gp, hgp⟩ : ∃ gp, gp = wr.heap.size := ⟨_, rfl⟩
          have HP : Hid (Blk (wr.alloc (.cells #[.int .i64 o, .int .i64 l] 53)).drew gp 53 [.int .i64 o, .int .i64 l]) := by rw [hgp]; exact Blk.new _ _ _
          have HO2 := Lib.hid ((HO.out.alloc (.cells #[.int .i64 o, .int .i64 l] 53)).drew)
          have HB2 := Lib.hid ((HB.out.alloc (o := .cells #[.int .i64 o, .int .i64 l] 53) HB.out.size).drew)
          have HNE : Hid ((Value.slice A' k c').ownBlock ≠ some gp) := by
            show _ ≠ _
            intro h
            have := (HO.out.lt _ h).2
            omega
          obtain ⟨wo, hwo⟩ : ∃ wo, wo = (wr.alloc (.cells #[.int .i64 o, .int .i64 l] 53)).drew := ⟨_, rfl⟩
          rw [← hwo] at HP HO2 HB2 ⊢
          rw [← hgp]
          have hsz : gp < wo.heap.size := HP.out.lt
          have hp1 : wo.cell? ⟨gp, 0, none⟩ = some (.int .i64 o) := by rw [HP.out.cell]; rfl
          have hp2 : wo.cell? ⟨gp, 1, none⟩ = some (.int .i64 l) := by rw [HP.out.cell]; rfl
          clear hwo hgp
          by_cases t1 : 65536 < suml ps k + l
          · go_wp2
            go_meet
            exact ⟨ps, by rw [HPK.out]; exact hk, by rw [HPK.out], by rw [HPK.out], hok, by rw [HPK.out]; exact hs1, by rw [HPK.out]; exact hs2, by rw [HPK.out]; exact HO2.out, HB2.out⟩
          by_cases t2 : 131072 < o + l
          · go_wp2
            go_meet
            exact ⟨ps, by rw [HPK.out]; exact hk, by rw [HPK.out], by rw [HPK.out], hok, by rw [HPK.out]; exact hs1, by rw [HPK.out]; exact hs2, by rw [HPK.out]; exact HO2.out, HB2.out⟩
          go_wp2_with (refine wpList_append_rc (o := ⟨some 62, _, _, _, _, _⟩) _ rfl (.tmp 59) (.tmp 61) _ rfl w.heap.size 53 _ 2 16 Tryd.underlying43 pinfo_spec rfl (by omega) _ k _ rfl (HO2.out.alloc _) _ 1 1 (wo.heap.size + 1) _ rfl rfl (RC.of_blk (Blk.new _ _ _)) (two_one _ _) (by omega) (by omega) (by have := HB2.out.size; simp; omega) ?_)
          intro v' w1 h1 h2 h3
          have HP1 : Hid (Blk w1 gp 53 [.int .i64 o, .int .i64 l]) := (HP.out.alloc _).grown h2.out (Ne.symm HNE.out)
          have hp3 : w1.cell? ⟨gp, 0, none⟩ = some (.int .i64 o) := by rw [HP1.out.cell]; rfl
          have hp4 : w1.cell? ⟨gp, 1, none⟩ = some (.int .i64 l) := by rw [HP1.out.cell]; rfl
          clear hp1 hp2 hsz
          go_wp2
          have q1 : IntKind.i64.wrap (o + l) = o + l := IntWalk.i64_in _ (by omega)
          have q2 : IntKind.i64.wrap (suml ps k + l) = suml ps k + l := IntWalk.i64_in _ (by omega)
          go_region_held3 (fun w' => w'.cell? ⟨gp, 0, none⟩ = some (.int .i64 o) ∧ w'.cell? ⟨gp, 1, none⟩ = some (.int .i64 l)) (go_keep) (fail)
          clear q1 q2
          have E1 : Hid ((ps ++ [(o, l)]).length = k + 1) := by show _ = _; rw [List.length_append, HPK.out]; rfl
          have E2 : Hid (ve (ps ++ [(o, l)]) (k + 1) = o + l) := by show _ = _; rw [← HPK.out, ve_last]
          have E3 : Hid (suml (ps ++ [(o, l)]) (k + 1) = suml ps k + l) := by show _ = _; rw [← HPK.out, suml_last]
          have E4 : Hid (∀ i, i < (ps ++ [(o, l)]).length → okG (ps ++ [(o, l)]) i) := okG_snoc ps (o, l) hok.out (by rw [HPK.out]; exact ⟨o1, o2, l1, l2⟩)
          have E5 : Hid (pcs (ps ++ [(o, l)]) = pcs ps ++ [.int .i64 o, .int .i64 l]) := by show _ = _; rw [pcs_append]; rfl
          go_wp2
          go_roundw
          case rel => exact ⟨ps ++ [(o, l)], k + 1, j + 2, E1.out, by omega, by omega, by go_num, val_i64 E2.out.symm, val_i64 E3.out.symm, E4, by rw [E3.out]; omega, by rw [E2.out]; omega, by rw [E5.out]; exact h1.out, ((HB2.out.alloc HB2.out.size _).grown h2.out (by have := HB2.out.size; simp; omega) (fun g hg => (HO.out.lt g hg).1)).drew⟩
          case measure => simp [intOf]; omega
      · rcases (show ¬ j + 1 < n ∨ (j + 1 < n ∧ ¬ k < 100) from by omega) with hgo1 | ⟨hgo1, hgo2⟩
        all_goals
          clear hgo hown hb hblk hpk
          go_wp2
          go_meet
          exact ⟨ps, by rw [HPK.out]; exact hk, by rw [HPK.out], by rw [HPK.out], hok, by rw [HPK.out]; exact hs1, by rw [HPK.out]; exact hs2, by rw [HPK.out]; exact HO.out, HB.out⟩
  case rest =>
    obtain ⟨ps, hlen, rfl, rfl, hok, hs1, hs2, hown, hb⟩ := hcut
    have e1 := ve_okG ps ps.length hok.out
    have HO := Lib.hid hown
    have HB := Lib.hid hb
    by_cases hn0 : n = 0
    · subst hn0
      clear hown hb
      go_wp2
      go_ret3
      exact ⟨ps, _, _, _, rfl, ⟨hlen, hok.out, rfl, hs1, hs2, by omega, by omega⟩, HO.out, HB.out⟩
    · obtain ⟨b, off, hA, hbB, hc⟩ := HR.out.num (k := n - 1) (by rw [HN.out]; omega)
      subst hA
      have hc1 := (hb.cell (p := ⟨b, off + (n - 1), none⟩) (Nat.lt_of_lt_of_le hbB hB)).trans (hc (n - 1) (by rw [HN.out]; omega))
      obtain ⟨s1, s2⟩ := HS.out (n - 1)
      obtain ⟨m1, m2⟩ : 0 ≤ nv ns (n - 1) % 200 ∧ nv ns (n - 1) % 200 < 200 := by omega
      have hn1 : (0 : Int) < (n : Int) := by omega
      clear hc hown hb
      go_wp2_with (go_at_call 21; refine (below_any _ _ _ (by omega) (by omega) (by omega) (by omega)).mono ?_; rintro e w' ⟨rfl, rfl⟩)
      go_ret3
      exact ⟨ps, _, _, _, rfl, ⟨hlen, hok.out, rfl, hs1, hs2, by omega, by omega⟩, HO.out, HB.out⟩
end Go.Proofs.YtlchagphjmfooaaDoor
