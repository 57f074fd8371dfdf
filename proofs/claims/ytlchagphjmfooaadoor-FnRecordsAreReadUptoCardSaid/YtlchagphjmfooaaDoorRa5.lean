/- The law FnRecordsAreRead: the walk. -/
import Derived.Test.YtlchagphjmfooaaDoorRa4
namespace Go.Proofs.YtlchagphjmfooaaDoor
open Go.RowKit Go.PlainAid
set_option linter.unusedVariables false

set_option maxRecDepth 20000 in
set_option maxHeartbeats 6400000 in
theorem fnRar_walk {a a1 a2 a3 : Addr} (A A2 : Option Addr) (n c n2 c2 : Nat) (l : List (ByteArray × ByteArray)) (K : Nat → Bool) (w : World) (hn : l.length = n) (hr : RC w w.heap.size A (recsV l)) (hc : n ≤ c) (hc9 : c ≤ 9223372036854775807) (hK : BoolRow w w.heap.size A2 n2 K) (hc2 : n2 ≤ c2) (hm2 : c2 ≤ 9223372036854775807) (hbulk : bulkR l ≤ 1048576)
    (hE : Err w.heap.size w 0 a) (hE1 : Err w.heap.size w 6 a1) (hE2 : Err w.heap.size w 7 a2) (hE3 : Err w.heap.size w 2 a3) :
    Calls Tryd.prog 13 #[.slice A n c, .slice A2 n2 c2] w fun e w' => e = .returned (.bool true) ∧ Below w.heap.size w w' := by
  have hlen := bulkR_len l
  have hn3 : n * 3 ≤ 1048576 := by omega
  have HFT := Lib.hid (zzFits4 A n c w.heap.size l w hn hr (Nat.le_refl _) (by omega) (bulkR_sizes l hbulk))
  have HR := Lib.hid hr
  have HN := Lib.hid hn
  have HK := Lib.hid hK
  have HBU := Lib.hid hbulk
  have HE := Lib.hid hE
  have HE1 := Lib.hid hE1
  have HE2 := Lib.hid hE2
  have HE3 := Lib.hid hE3
  clear hr hn hK hbulk hE hE1 hE2 hE3 hlen
  by_cases hbig : 2147483647 < n2
  · go_enter Tryd.func13, Tryd.ntmps13
    go_wp2_with fail
    refine HFT.out.mono ?_
    rintro e w1 ⟨rfl, hb1⟩
    have HB1 := Lib.hid hb1
    clear hb1
    go_wp2
    go_ret
    exact ⟨rfl, HB1.out⟩
  have hn2 : n2 ≤ 2147483647 := by omega
  go_enter Tryd.func13, Tryd.ntmps13
  go_wp2_with fail
  refine HFT.out.mono ?_
  rintro e w0 ⟨rfl, hb1⟩
  have HB0 := Lib.hid hb1
  clear hb1 HFT
  go_wp2
  go_loopw [5, 23] (fun s i wr => ∃ (k : Nat) (S : ByteArray), k ≤ n ∧ s = .string S ∧ i = .int .i64 k ∧ Hid (Txt (l.take k) S) ∧ Hid (S.size ≤ bulkR (l.take k) + 18 * k) ∧ Hid (Below w.heap.size w wr)) (fun _ i _ => n - (intOf i).toNat)
  case atStart => exact ⟨0, ⟨#[]⟩, by omega, rfl, rfl, Lib.hid .nil, Lib.hid (Nat.zero_le _), HB0⟩
  case round =>
    obtain ⟨k, S, hk, rfl, rfl, hT, hS, hW⟩ := hrel
    have hS9 : S.size ≤ 8000000 := by have := hS.out; have := bulkR_take l k; have := HBU.out; omega
    by_cases hlt : k < n
    · obtain ⟨b, off, rfl, _, hc1, hc2'⟩ := (HR.out.below hW.out).rec_ (k := k) (by rw [HN.out]; exact hlt)
      have HKL : Hid (k < l.length) := Lib.hid (by rw [HN.out]; exact hlt)
      obtain ⟨z1, z2⟩ := bulkR_sizes l HBU.out k
      obtain ⟨X, hX⟩ : ∃ X, X = rk l k := ⟨_, rfl⟩
      obtain ⟨Y, hY⟩ : ∃ Y, Y = rv l k := ⟨_, rfl⟩
      have HX := Lib.hid hX
      have HY := Lib.hid hY
      rw [← hX] at hc1 z1
      rw [← hY] at hc2' z2
      have HCB := Lib.hid (Blk.new wr 27 [.string X, .string Y])
      have HW1 := Lib.hid (hW.out.alloc (o := .cells #[.string X, .string Y] 27) hW.out.size)
      have HRS := Lib.hid (recR_size X Y)
      have HSM : Hid (∀ j, j ≤ 18 → (numL ((recR X Y).size + j)).length = j → (S ++ (numB ((recR X Y).size + j) ++ recR X Y)).size ≤ bulkR (l.take (k + 1)) + 18 * (k + 1)) := Lib.hid (fun j hj hn => by
        rw [ByteArray.size_append, put_size hn, bulkR_succ l k HKL.out, ← HX.out, ← HY.out]
        have := hS.out
        omega)
      have HPT : Hid (∀ (bb : Bool) (w3 : World), Calls Tryd.prog 17 #[.agg #[.string X, .string Y], .bool bb] w3 fun e w' => ∃ W, e = .returned (.string W) ∧ W.size ≤ 3000000 ∧ Hid (∃ j, j ≤ 18 ∧ (numL ((recR X Y).size + j)).length = j ∧ W = numB ((recR X Y).size + j) ++ recR X Y) ∧ Below w3.heap.size w3 w') := Lib.hid (fun bb w3 => by
        refine (specPut X Y bb w3 (by omega) (by omega)).mono ?_
        rintro e w' ⟨⟨j, h1, h2, h3, rfl⟩, h4⟩
        exact ⟨_, rfl, by rw [put_size h3]; omega, Lib.hid ⟨j, h2, h3, rfl⟩, h4⟩)
      have hb := get_bt X
      clear hX hY
      by_cases hlong : k < n2
      · obtain ⟨lb, lo, rfl, hlb, hlc⟩ := (HK.out.below hW.out (Nat.le_refl _)) k hlong
        have hlck := hlc k hlong
        have hlbw : lb < wr.heap.size := Nat.lt_of_lt_of_le hlb hW.out.size
        have HLC : Hid ((wr.alloc (.cells #[.string X, .string Y] 27)).cell? ⟨lb, lo + k, none⟩ = some (.bool (K k))) := Lib.hid (by rw [World.cell?_alloc_lt wr _ _ hlbw]; exact hlck)
        clear hlc hlck
        go_wp2
        have hpbw : wr.heap.size < (wr.alloc (.cells #[.string X, .string Y] 27)).heap.size := HCB.out.lt
        generalize wr.alloc (.cells #[.string X, .string Y] 27) = w2 at HCB HW1 HLC hpbw ⊢
        generalize wr.heap.size = pb at HCB hlbw hpbw ⊢
        have c0 : w2.cell? ⟨pb, 0, none⟩ = some (.string X) := by rw [HCB.out.cell]; rfl
        have c1 : w2.cell? ⟨pb, 1, none⟩ = some (.string Y) := by rw [HCB.out.cell]; rfl
        have HS0 := Lib.hid (show w2.cell? ⟨pb, 0, none⟩ = some (.string X) ∧ w2.cell? ⟨pb, 1, none⟩ = some (.string Y) ∧ w2.cell? ⟨lb, lo + k, none⟩ = some (.bool (K k)) ∧ pb < w2.heap.size ∧ lb < w2.heap.size ∧ Below w.heap.size w w2 from ⟨c0, c1, HLC.out, hpbw, Nat.lt_trans hlbw hpbw, HW1.out⟩)
        go_region_held3 (fun w' => w'.cell? ⟨pb, 0, none⟩ = some (.string X) ∧ w'.cell? ⟨pb, 1, none⟩ = some (.string Y) ∧ w'.cell? ⟨lb, lo + k, none⟩ = some (.bool (K k)) ∧ pb < w'.heap.size ∧ lb < w'.heap.size ∧ Below w.heap.size w w') (first | exact HS0.out | exact keepR (Nat.le_refl _) hb4 (by assumption) | assumption | exact keepR0 (by assumption))
          (first
          | (go_at_call 17; refine (HPT.out _ _).mono ?_; rintro e w' ⟨W, rfl, hWs, hWj, hb4⟩; have n3 : ¬ 9223372036854775807 < S.size + W.size := by omega))
        have HBW : Hid (Below w.heap.size w w') := Lib.hid (by have hS9 : w'.cell? ⟨pb, 0, none⟩ = some (.string X) ∧ w'.cell? ⟨pb, 1, none⟩ = some (.string Y) ∧ w'.cell? ⟨lb, lo + k, none⟩ = some (.bool (K k)) ∧ pb < w'.heap.size ∧ lb < w'.heap.size ∧ Below w.heap.size w w' := by assumption
                                                               exact hS9.2.2.2.2.2)
        go_wp2
        go_loop [45] (fun s => ∃ z : Nat, z ≤ X.size ∧ s = .int .i64 z ∧ Hid (∀ m, m < z → bt X m ≠ ((61 : UInt8).toNat : Int))) (fun s => X.size - (intOf s).toNat)
        case atStart => exact ⟨0, by omega, rfl, Lib.hid (fun m hm => by omega)⟩
        case round =>
          obtain ⟨z, hz, rfl, hq⟩ := hrel
          by_cases hzl : z < X.size
          · by_cases heq : bt X z = 61
            · have e9 : (bt X z == 61) = true := by rw [heq]; rfl
              go_wp2
              go_ret
              exact ⟨rfl, HBW.out⟩
            · have e9 : (bt X z == 61) = false := by rw [beq_eq_false_iff_ne]; exact heq
              have HQ2 : Hid (∀ m, m < z + 1 → bt X m ≠ ((61 : UInt8).toNat : Int)) := Lib.hid (ne_succ hq.out heq)
              go_wp2
              go_round
              case rel => exact ⟨z + 1, by omega, by go_num, HQ2⟩
              case measure => simp [intOf]; omega
          · obtain rfl : z = X.size := by omega
            have HT2 : Hid (Txt (l.take (k + 1)) (S ++ W)) := Lib.hid (by
              obtain ⟨j, h1, h2, h3⟩ := hWj.out
              rw [h3]
              exact txt_more HKL.out HX.out HY.out hT.out z1 z2 h1 h2 hq.out)
            have HS2 : Hid ((S ++ W).size ≤ bulkR (l.take (k + 1)) + 18 * (k + 1)) := Lib.hid (by
              obtain ⟨j, h1, h2, h3⟩ := hWj.out
              rw [h3]
              exact HSM.out j h1 h2)
            go_wp2
            go_roundw
            case rel => exact ⟨k + 1, S ++ W, by omega, rfl, by go_num, HT2, HS2, HBW⟩
            case measure => simp [intOf]; omega
      · have hl2 : ¬ (k : Int) < (n2 : Int) := by omega
        have hl3 : n2 ≤ k := by omega
        go_wp2
        have hpbw : wr.heap.size < (wr.alloc (.cells #[.string X, .string Y] 27)).heap.size := HCB.out.lt
        generalize wr.alloc (.cells #[.string X, .string Y] 27) = w2 at HCB HW1 hpbw ⊢
        generalize wr.heap.size = pb at HCB hpbw ⊢
        have c0 : w2.cell? ⟨pb, 0, none⟩ = some (.string X) := by rw [HCB.out.cell]; rfl
        have c1 : w2.cell? ⟨pb, 1, none⟩ = some (.string Y) := by rw [HCB.out.cell]; rfl
        have HS0 := Lib.hid (show w2.cell? ⟨pb, 0, none⟩ = some (.string X) ∧ w2.cell? ⟨pb, 1, none⟩ = some (.string Y) ∧ pb < w2.heap.size ∧ Below w.heap.size w w2 from ⟨c0, c1, hpbw, HW1.out⟩)
        refine wp_region_held_drew (S := fun w' => w'.cell? ⟨pb, 0, none⟩ = some (.string X) ∧ w'.cell? ⟨pb, 1, none⟩ = some (.string Y) ∧ pb < w'.heap.size ∧ Below w.heap.size w w') (by kernel_rfl) (keepQ0 HS0.out) (fun hHeld => ?_)
        refine wpAnyH_take (i := 0) (oi := { dst := some 28, op := Op.move (Operand.tmp 5), type := 9, pos := "parts.go:282", after := #[], guard := none }) (v := .string S) rfl (by kernel_rfl) (by kernel_rfl) (by kernel_rfl) (fun _ _ _ h => h) (Or.inl ⟨by rfl, fun w9 hS9 => ?_⟩) hHeld ?_
        · obtain ⟨g0, g1, _, _⟩ := hS9
          go_simp
        simp only [Act.put, List.setIfInBounds_toArray, List.set_cons_zero, List.set_cons_succ]
        refine wpAnyH_take (i := 1) (oi := { dst := some 29, op := Op.load 27 (Operand.tmp 7), type := 27, pos := "parts.go:282", after := #[], guard := none }) (v := .agg #[.string X, .string Y]) rfl (by kernel_rfl) (by kernel_rfl) (by kernel_rfl) (fun _ _ _ h => h) (Or.inl ⟨by rfl, fun w9 hS9 => ?_⟩) hHeld ?_
        · obtain ⟨g0, g1, _, _⟩ := hS9
          go_simp
        simp only [Act.put, List.setIfInBounds_toArray, List.set_cons_zero, List.set_cons_succ]
        refine wpAnyH_take (i := 2) (oi := { dst := some 30, op := Op.move (Operand.tmp 6), type := 3, pos := "parts.go:282", after := #[], guard := none }) (v := .int .i64 (k : Int)) rfl (by kernel_rfl) (by kernel_rfl) (by kernel_rfl) (fun _ _ _ h => h) (Or.inl ⟨by rfl, fun w9 hS9 => ?_⟩) hHeld ?_
        · obtain ⟨g0, g1, _, _⟩ := hS9
          go_simp
        simp only [Act.put, List.setIfInBounds_toArray, List.set_cons_zero, List.set_cons_succ]
        refine wpAnyH_take (i := 3) (oi := { dst := some 31, op := Op.move (Operand.tmp 1), type := 73, pos := "parts.go:282", after := #[], guard := none }) (v := .slice A2 n2 c2) rfl (by kernel_rfl) (by kernel_rfl) (by kernel_rfl) (fun _ _ _ h => h) (Or.inl ⟨by rfl, fun w9 hS9 => ?_⟩) hHeld ?_
        · obtain ⟨g0, g1, _, _⟩ := hS9
          go_simp
        simp only [Act.put, List.setIfInBounds_toArray, List.set_cons_zero, List.set_cons_succ]
        refine wpAnyH_take (i := 4) (oi := { dst := some 32, op := Op.call { callee := Callee.builtin Builtin.len, args := #[Operand.tmp 31], argTypes := #[73] }, type := 3, pos := "parts.go:282", after := #[{ on := 3, ground := Ground.data }], guard := none }) (v := .int .i64 (n2 : Int)) rfl (by kernel_rfl) (by kernel_rfl) (by kernel_rfl) (fun _ _ _ h => h) (Or.inl ⟨by rfl, fun w9 hS9 => ?_⟩) hHeld ?_
        · obtain ⟨g0, g1, _, _⟩ := hS9
          go_simp
        simp only [Act.put, List.setIfInBounds_toArray, List.set_cons_zero, List.set_cons_succ]
        refine wpAnyH_take (i := 5) (oi := { dst := some 33, op := Op.binOp BinOp.lss 3 (Operand.tmp 30) (Operand.tmp 32) 3, type := 4, pos := "parts.go:282", after := #[{ on := 2, ground := Ground.data }, { on := 4, ground := Ground.data }], guard := none }) (v := .bool false) rfl (by kernel_rfl) (by kernel_rfl) (by kernel_rfl) (fun _ _ _ h => h) (Or.inl ⟨by rfl, fun w9 hS9 => ?_⟩) hHeld ?_
        · obtain ⟨g0, g1, _, _⟩ := hS9
          go_simp
        simp only [Act.put, List.setIfInBounds_toArray, List.set_cons_zero, List.set_cons_succ]
        refine wpAnyH_take (i := 6) (oi := { dst := some 34, op := Op.move (Operand.tmp 33), type := 4, pos := "parts.go:282", after := #[{ on := 5, ground := Ground.data }], guard := none }) (v := .bool false) rfl (by kernel_rfl) (by kernel_rfl) (by kernel_rfl) (fun _ _ _ h => h) (Or.inl ⟨by rfl, fun w9 hS9 => ?_⟩) hHeld ?_
        · obtain ⟨g0, g1, _, _⟩ := hS9
          go_simp
        simp only [Act.put, List.setIfInBounds_toArray, List.set_cons_zero, List.set_cons_succ]
        refine wpAnyH_take (i := 7) (oi := { dst := some 35, op := Op.move (Operand.tmp 1), type := 73, pos := "parts.go:282", after := #[{ on := 6, ground := Ground.guard }], guard := some (6, true) }) (v := undef) rfl (by kernel_rfl) (by kernel_rfl) (by kernel_rfl) (fun _ _ _ h => h) (Or.inr ⟨by rfl, rfl⟩) hHeld ?_
        simp only [Act.put, List.setIfInBounds_toArray, List.set_cons_zero, List.set_cons_succ]
        refine wpAnyH_take (i := 8) (oi := { dst := some 36, op := Op.move (Operand.tmp 6), type := 3, pos := "parts.go:282", after := #[{ on := 6, ground := Ground.guard }], guard := some (6, true) }) (v := undef) rfl (by kernel_rfl) (by kernel_rfl) (by kernel_rfl) (fun _ _ _ h => h) (Or.inr ⟨by rfl, rfl⟩) hHeld ?_
        simp only [Act.put, List.setIfInBounds_toArray, List.set_cons_zero, List.set_cons_succ]
        refine wpAnyH_take (i := 9) (oi := { dst := some 37, op := Op.indexAddr 73 (Operand.tmp 35) (Operand.tmp 36), type := 0, pos := "parts.go:282", after := #[{ on := 7, ground := Ground.data }, { on := 8, ground := Ground.data }, { on := 6, ground := Ground.guard }], guard := some (6, true) }) (v := undef) rfl (by kernel_rfl) (by kernel_rfl) (by kernel_rfl) (fun _ _ _ h => h) (Or.inr ⟨by rfl, rfl⟩) hHeld ?_
        simp only [Act.put, List.setIfInBounds_toArray, List.set_cons_zero, List.set_cons_succ]
        refine wpAnyH_take (i := 10) (oi := { dst := some 38, op := Op.load 4 (Operand.tmp 37), type := 4, pos := "parts.go:282", after := #[{ on := 9, ground := Ground.data }, { on := 6, ground := Ground.guard }], guard := some (6, true) }) (v := undef) rfl (by kernel_rfl) (by kernel_rfl) (by kernel_rfl) (fun _ _ _ h => h) (Or.inr ⟨by rfl, rfl⟩) hHeld ?_
        simp only [Act.put, List.setIfInBounds_toArray, List.set_cons_zero, List.set_cons_succ]
        refine wpAnyH_take (i := 11) (oi := { dst := some 39, op := Op.pick (Operand.tmp 34) (Operand.tmp 38) (Operand.const (Value.bool false)), type := 4, pos := "parts.go:282", after := #[{ on := 6, ground := Ground.data }, { on := 10, ground := Ground.data }], guard := none }) (v := .bool false) rfl (by kernel_rfl) (by kernel_rfl) (by kernel_rfl) (fun _ _ _ h => h) (Or.inl ⟨by rfl, fun w9 hS9 => ?_⟩) hHeld ?_
        · obtain ⟨g0, g1, _, _⟩ := hS9
          go_simp
        simp only [Act.put, List.setIfInBounds_toArray, List.set_cons_zero, List.set_cons_succ]
        refine wpAnyH_ready (rs := [12]) (by kernel_rfl) (by simp) ?_
        refine AllReadyH.cons (o := { dst := some 40, op := Op.call { callee := Callee.value (Operand.func 17), args := #[Operand.tmp 29, Operand.tmp 39], argTypes := #[23, 4] }, type := 9, pos := "parts.go:282", after := #[{ on := 1, ground := Ground.data }, { on := 11, ground := Ground.data }, { on := 6, ground := Ground.chain }], guard := none }) rfl (fun K9 hK9 => ?_) AllReadyH.nil
        go_simp
        refine (HPT.out _ _).mono ?_
        rintro e w' ⟨W, rfl, hWs, hWj, hb4⟩
        have n3 : ¬ 9223372036854775807 < S.size + W.size := by omega
        refine hK9.out _ _ (keepQ (Nat.le_refl _) hb4 hHeld) (fun hHeld2 => ?_)
        clear hK9 K9
        try simp only [Act.put, List.setIfInBounds_toArray, List.set_cons_zero, List.set_cons_succ]
        refine wpAnyH_take (i := 13) (oi := { dst := some 41, op := Op.binOp BinOp.add 9 (Operand.tmp 28) (Operand.tmp 40) 9, type := 9, pos := "parts.go:282", after := #[{ on := 0, ground := Ground.data }, { on := 12, ground := Ground.data }], guard := none }) (v := .string (S ++ W)) rfl (by kernel_rfl) (by kernel_rfl) (by kernel_rfl) (fun _ _ _ h => h) (Or.inl ⟨by rfl, fun w9 hS9 => ?_⟩) hHeld2 ?_
        · obtain ⟨g0, g1, _, _⟩ := hS9
          go_simp
        simp only [Act.put, List.setIfInBounds_toArray, List.set_cons_zero, List.set_cons_succ]
        refine wpAnyH_take (i := 14) (oi := { dst := some 5, op := Op.assign (Operand.tmp 41), type := 9, pos := "parts.go:282", after := #[{ on := 13, ground := Ground.data }, { on := 12, ground := Ground.chain }, { on := 0, ground := Ground.phase }, { on := 1, ground := Ground.phase }, { on := 2, ground := Ground.phase }, { on := 3, ground := Ground.phase }, { on := 4, ground := Ground.phase }, { on := 5, ground := Ground.phase }, { on := 6, ground := Ground.phase }, { on := 7, ground := Ground.phase }, { on := 8, ground := Ground.phase }, { on := 9, ground := Ground.phase }, { on := 10, ground := Ground.phase }, { on := 11, ground := Ground.phase }, { on := 12, ground := Ground.phase }, { on := 13, ground := Ground.phase }], guard := none }) (v := .string (S ++ W)) rfl (by kernel_rfl) (by kernel_rfl) (by kernel_rfl) (fun _ _ _ h => h) (Or.inl ⟨by rfl, fun w9 hS9 => ?_⟩) hHeld2 ?_
        · obtain ⟨g0, g1, _, _⟩ := hS9
          go_simp
        simp only [Act.put, List.setIfInBounds_toArray, List.set_cons_zero, List.set_cons_succ]
        refine wpAnyH_done (by kernel_rfl) ?_ _
        have HBW : Hid (Below w.heap.size w w') := Lib.hid hHeld2.2.2.2
        have q0 := hHeld2.1
        have q1 := hHeld2.2.1
        clear hHeld hHeld2 hb4
        go_wp2
        go_loop [45] (fun s => ∃ z : Nat, z ≤ X.size ∧ s = .int .i64 z ∧ Hid (∀ m, m < z → bt X m ≠ ((61 : UInt8).toNat : Int))) (fun s => X.size - (intOf s).toNat)
        case atStart => exact ⟨0, by omega, rfl, Lib.hid (fun m hm => by omega)⟩
        case round =>
          obtain ⟨z, hz, rfl, hq⟩ := hrel
          by_cases hzl : z < X.size
          · by_cases heq : bt X z = 61
            · have e9 : (bt X z == 61) = true := by rw [heq]; rfl
              go_wp2
              go_ret
              exact ⟨rfl, HBW.out⟩
            · have e9 : (bt X z == 61) = false := by rw [beq_eq_false_iff_ne]; exact heq
              have HQ2 : Hid (∀ m, m < z + 1 → bt X m ≠ ((61 : UInt8).toNat : Int)) := Lib.hid (ne_succ hq.out heq)
              go_wp2
              go_round
              case rel => exact ⟨z + 1, by omega, by go_num, HQ2⟩
              case measure => simp [intOf]; omega
          · obtain rfl : z = X.size := by omega
            have HT2 : Hid (Txt (l.take (k + 1)) (S ++ W)) := Lib.hid (by
              obtain ⟨j, h1, h2, h3⟩ := hWj.out
              rw [h3]
              exact txt_more HKL.out HX.out HY.out hT.out z1 z2 h1 h2 hq.out)
            have HS2 : Hid ((S ++ W).size ≤ bulkR (l.take (k + 1)) + 18 * (k + 1)) := Lib.hid (by
              obtain ⟨j, h1, h2, h3⟩ := hWj.out
              rw [h3]
              exact HSM.out j h1 h2)
            go_wp2
            go_roundw
            case rel => exact ⟨k + 1, S ++ W, by omega, rfl, by go_num, HT2, HS2, HBW⟩
            case measure => simp [intOf]; omega
    · obtain rfl : k = n := by omega
      have HTF : Hid (Txf l S) := Lib.hid (by have h := hT.out.front; rwa [List.take_of_length_le (by rw [HN.out]; exact Nat.le_refl _)] at h)
      clear hT hS
      by_cases hsz : 524288 < S.size
      · go_wp2
        go_ret
        exact ⟨rfl, hW.out⟩
      have hs : S.size ≤ 524288 := by omega
      go_wp2_with fail
      refine (specRecords S wr (by omega)).mono ?_
      rintro e w1 ⟨rs, v, A3, n3, c3, hP, rfl, hv, hnv, hb⟩
      have HTOLD := Lib.hid (HTF.out.told hP)
      have HNV := Lib.hid hnv
      have HB1 := Lib.hid (hW.out.trans (hb.mono hW.out.size))
      have hvi : -9223372036854775808 ≤ v ∧ v ≤ 9223372036854775807 := by omega
      have HI := fun c => Lib.hid (implConv S rs v w1 c (by omega) hP hv (HE.out.more HB1.out) (HE1.out.more HB1.out) (HE2.out.more HB1.out) (HE3.out.more HB1.out))
      have hcv := Lib.run_convert_string_bytes (P := Tryd.prog) w1 9 62 5 S (u := .string) Tryd.underlying9 Tryd.underlying62 Tryd.underlying5
      obtain ⟨w2, hw2⟩ : ∃ w2, w2 = Lib.bytesWorld w1 5 S := ⟨_, rfl⟩
      rw [← hw2] at hcv HI
      clear hv hnv hb hP hw2
      go_wp2_with fail
      refine (HI _).out.mono ?_
      rintro e w3 (⟨x, A4, c4, hx, hxl, rfl, hr4, hb3⟩ | ⟨hx, A4, c4, rfl, hb3⟩)
      · have HB3 := Lib.hid (HB1.out.trans (hb3.mono HB1.out.size))
        have HR4 := Lib.hid hr4
        have HXL := Lib.hid hxl
        have HX := Lib.hid hx
        have HB13 := Lib.hid hb3
        obtain ⟨m, hm⟩ : ∃ m, (tab x).length = m := ⟨_, rfl⟩
        have HM := Lib.hid hm
        rw [hm]
        clear hr4 hxl hx hb3 hm HI
        rcases HTOLD.out with h | ⟨h, hrl⟩
        · subst h
          go_wp2
          go_ret
          exact ⟨rfl, HB3.out⟩
        · subst h
          have HXR : Hid (x = l) := Lib.hid (HX.out.elim (fun h => by cases h) (fun h => h.2.trans hrl))
          have HRL := Lib.hid hrl
          clear hrl
          obtain ⟨q1, q2⟩ := HNV.out rfl
          have HR5 : Hid (RC w3 w1.heap.size A3 (recsV (tab l))) := Lib.hid (by have h := q2.below HB13.out; rwa [HRL.out] at h)
          have HR6 : Hid (RC w3 w3.heap.size A4 (recsV (tab l))) := Lib.hid (by have h := HR4.out; rwa [HXR.out] at h)
          have HM2 : Hid ((tab l).length = m) := Lib.hid (by rw [← HM.out, HXR.out])
          obtain rfl : n3 = m := by rw [q1, HRL.out, HM2.out]
          have hml : n3 ≤ 2147483647 := by rw [← HM2.out]; have := tab_len l; have := HN.out; omega
          clear q1 q2 HNV HX HM HR4
          have hb13 := HB13.out.size
          go_wp2_with fail
          refine (recsAre A4 A3 n3 c4 c3 _ _ (tab l) _ HM2.out HR6.out HR5.out hml).mono ?_
          rintro e w4 ⟨rfl, hb4⟩
          have HB4 := Lib.hid (HB3.out.trans (hb4.mono HB3.out.size))
          have HR7 : Hid (RC w4 w4.heap.size A3 (recsV (tab l))) := Lib.hid (((HR5.out.more hb13).below hb4).more hb4.size)
          clear hb4
          go_wp2_with fail
          refine (lawRecs A k c w.heap.size l w4 HN.out (HR.out.below HB4.out) HB4.out.size (by omega)).mono ?_
          rintro e w5 ⟨v5, rfl, ho5, hb5⟩
          obtain ⟨A5, c5, rfl, _, hc5, _⟩ := own_form ho5
          have HB5 := Lib.hid (HB4.out.trans (hb5.mono HB4.out.size))
          have HR8 := Lib.hid ((HR7.out.below hb5).more hb5.size)
          have HR9 := Lib.hid (RC.of_own ho5)
          clear ho5 hb5
          go_wp2_with fail
          refine (specHas A3 A5 n3 c3 k c5 w5.heap.size (tab l) l w5 HM2.out HN.out HR8.out HR9.out (Nat.le_refl _) hml (by omega) hc5 (hasOk_tab l)).mono ?_
          rintro e w6 ⟨rfl, hb6⟩
          have HB6 := Lib.hid (HB5.out.trans (hb6.mono HB5.out.size))
          clear hb6
          go_wp2
          go_ret
          exact ⟨rfl, HB6.out⟩
      · have HB3 := Lib.hid (HB1.out.trans (hb3.mono HB1.out.size))
        have hv0 : v = 0 := by
          have h1 := HTOLD.out
          rcases h1 with h | ⟨h, _⟩
          · exact h
          · rcases hx with h2 | h2 <;> omega
        clear hb3 HI hx
        subst hv0
        go_wp2
        go_ret
        exact ⟨rfl, HB3.out⟩
end Go.Proofs.YtlchagphjmfooaaDoor
