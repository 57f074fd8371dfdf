/- bytes.Buffer: grow behind reads, by a new row. (The drawn region is printed by wip/gen_buf5.py.) -/
import Derived.Test.YtlchagphjmfooaaDoorBuf4
import Derived.Test.YtlchagphjmfooaaDoorLast
namespace Go.Proofs.YtlchagphjmfooaaDoor
open Go Go.RowKit Go.PlainAid
set_option linter.unusedVariables false

set_option maxRecDepth 20000 in
set_option maxHeartbeats 3200000 in
theorem bufGrowNew (b g off l cap m : Nat) (lr : Int) (cur : Array Value) (D : List UInt8) (w : World) (h : BufAt b g off l cap lr cur D w) (hm : D.length = m) (h1 : 1 ≤ m) (hno : cap - l < 512) (hl : l ≤ 10000000) (hs : cap / 2 < 512 + m) :
    Calls Tryd.prog 102 #[.pointer (some ⟨b, 0, none⟩), .int .i64 512] w (GrowB b g D w) := by
  have c0 : w.cell? ⟨b, 0, none⟩ = some (.slice (some ⟨g, 0, none⟩) l cap) := by rw [h.blk.cell]; rfl
  have c1 : w.cell? ⟨b, 1, none⟩ = some (.int .i64 off) := by rw [h.blk.cell]; rfl
  have f0 := h.blk.frozen 0
  have f1 := h.blk.frozen 1
  have hbl := h.blk.lt
  have hlen := h.len
  have hle := h.le
  have hmx : cap ≤ 9223372036854775807 := h.big
  have hq := fun w => Lib.run_eql_slice_some_nil (P := Tryd.prog) w ⟨g, 0, none⟩ l cap Tryd.underlying62
  have HLN := fun w h0 => Lib.hid (bufLen b off l cap lr (some ⟨g, 0, none⟩) w h0 (by omega) (by omega))
  have hlm : l - off = m := by omega
  have HTG := fun w h0 => Lib.hid (Tryd.Buffer_tryGrow_none b (some ⟨g, 0, none⟩) l cap 512 w h0 hle h.big hno)
  have HROW : Hid (∀ w0 : World, w0.heap[g]? = w.heap[g]? → RB w0 (g + 1) (some ⟨g, off, none⟩) D) := Lib.hid (fun w0 e hp => ⟨g, off, rfl, Nat.lt_succ_self _, fun i hi => by
    have := h.cells i hi
    rw [← this]
    simp only [World.cell?, e]⟩)
  have HGL := Lib.hid (Lib.lt_of_heap h.row)
  have HNE := Lib.hid h.ne
  have HBLK := Lib.hid h.blk
  have HM := Lib.hid hm
  obtain ⟨N, hN⟩ : ∃ N, N = off + 512 := ⟨_, rfl⟩
  obtain ⟨q, hq2⟩ : ∃ q, cap / 2 = q := ⟨_, rfl⟩
  have HGR : Hid (∀ w0 : World, w0.heap[g]? = w.heap[g]? → g + 1 ≤ w0.heap.size → Calls Tryd.prog 123 #[.slice (some ⟨g, off, none⟩) (l - off) (cap - off), .int .i64 N] w0 (GrowP m N D w0)) := Lib.hid (fun w0 e hw => by
    have h2 := growSl g off (l - off) (cap - off) N (g + 1) D w0 (by omega) (HROW.out w0 e) hw (by omega) (by omega) (by omega) (by omega)
    rw [hlm] at h2 ⊢
    exact h2)
  have v1 : ((m : Int) == 0) = false := by rw [beq_eq_false_iff_ne]; omega
  have v2 : (cap : Int).tdiv 2 = (q : Int) := by rw [Int.tdiv_eq_ediv_of_nonneg (by omega)]; omega
  have v3 : IntKind.i64.wrap ((q : Int)) = (q : Int) := IntWalk.i64_in _ (by omega)
  have v4 : IntKind.i64.wrap ((q : Int) - (m : Int)) = (q : Int) - (m : Int) := IntWalk.i64_in _ (by omega)
  have v5 : ¬ (512 : Int) ≤ (q : Int) - (m : Int) := by omega
  have v6 : IntKind.i64.wrap (9223372036854775807 - (cap : Int)) = 9223372036854775807 - (cap : Int) := IntWalk.i64_in _ (by omega)
  have v7 : IntKind.i64.wrap (9223372036854775807 - (cap : Int) - 512) = 9223372036854775807 - (cap : Int) - 512 := IntWalk.i64_in _ (by omega)
  have v8 : ¬ (9223372036854775807 - (cap : Int) - 512) < (cap : Int) := by omega
  have v9 : IntKind.i64.wrap ((off : Int) + 512) = (N : Int) := by rw [IntWalk.i64_in _ (by omega)]; omega
  have v10 : (0 : Int) ≤ (off : Int) := by omega
  have v11 : (off : Int) ≤ (l : Int) := by omega
  have v12 : (off : Int) ≤ (cap : Int) := by omega
  have v13 : ¬ cap = off := by omega
  have v14 : IntKind.i64.wrap ((m : Int) + 512) = (m : Int) + 512 := IntWalk.i64_in _ (by omega)
  have v15 : (0 : Int) ≤ (m : Int) + 512 := by omega
  have HN := Lib.hid hN
  have HLM := Lib.hid hlm
  clear h hm hN hq2 hs hlen hlm
  go_enter Tryd.func102, Tryd.ntmps102
  go_wp2_with fail
  refine (HLN _ HBLK.out).out.mono ?_
  rintro e w1 ⟨rfl, rfl⟩
  rw [HLM.out]
  go_wp2_with fail
  refine (HTG _ (by exact c0)).out.mono ?_
  rintro e w2 ⟨rfl, rfl⟩
  go_wp2_with fail
  have k0 : w.drew.drew.cell? ⟨b, 0, none⟩ = some (.slice (some ⟨g, 0, none⟩) l cap) := c0
  have k1 : w.drew.drew.cell? ⟨b, 1, none⟩ = some (.int .i64 off) := c1
  have kb : Hid (Blk w.drew.drew b 153 (bufCells (.slice (some ⟨g, 0, none⟩) l cap) off lr)) := Lib.hid (HBLK.out.drewN 2)
  have kg : Hid (w.drew.drew.heap[g]? = w.heap[g]?) := Lib.hid rfl
  have kf : Hid (Far [b, g] w w.drew.drew) := Lib.hid (Far.refl _ _).drew.drew
  have kz : Hid (g + 1 ≤ w.drew.drew.heap.size) := Lib.hid HGL.out
  have kbl : b < w.drew.drew.heap.size := hbl
  -- REGION BEGIN
  refine wp_region_last (t := 19) (S := fun w' => w'.cell? ⟨b, 0, none⟩ = some (.slice (some ⟨g, 0, none⟩) l cap) ∧ w'.cell? ⟨b, 1, none⟩ = some (.int .i64 (off : Int))) (by kernel_rfl) ⟨k0, k1⟩ (fun hHeld => ?_)
  refine wpAnyL_take (i := 0) (oi := { dst := some 76, op := Op.move (Operand.tmp 0), type := 172, pos := "buffer.go:169", after := #[], guard := none }) (v := .pointer (some ⟨b, 0, none⟩)) rfl (by kernel_rfl) (by kernel_rfl) (by kernel_rfl) (by kernel_rfl) (fun _ _ _ h => h) (Or.inl ⟨by rfl, fun w9 hS9 => ?_⟩) hHeld ?_
  · obtain ⟨g0, g1⟩ := hS9
    go_simp
  simp only [Act.put, List.setIfInBounds_toArray, List.set_cons_zero, List.set_cons_succ]
  refine wpAnyL_take (i := 1) (oi := { dst := some 77, op := Op.move (Operand.tmp 0), type := 172, pos := "buffer.go:169", after := #[], guard := none }) (v := .pointer (some ⟨b, 0, none⟩)) rfl (by kernel_rfl) (by kernel_rfl) (by kernel_rfl) (by kernel_rfl) (fun _ _ _ h => h) (Or.inl ⟨by rfl, fun w9 hS9 => ?_⟩) hHeld ?_
  · obtain ⟨g0, g1⟩ := hS9
    go_simp
  simp only [Act.put, List.setIfInBounds_toArray, List.set_cons_zero, List.set_cons_succ]
  refine wpAnyL_take (i := 2) (oi := { dst := some 78, op := Op.nilCheck (Operand.tmp 77), type := 0, pos := "buffer.go:169", after := #[{ on := 1, ground := Ground.data }], guard := none }) (v := .pointer (some ⟨b, 0, none⟩)) rfl (by kernel_rfl) (by kernel_rfl) (by kernel_rfl) (by kernel_rfl) (fun _ _ _ h => h) (Or.inl ⟨by rfl, fun w9 hS9 => ?_⟩) hHeld ?_
  · obtain ⟨g0, g1⟩ := hS9
    go_simp
  simp only [Act.put, List.setIfInBounds_toArray, List.set_cons_zero, List.set_cons_succ]
  refine wpAnyL_take (i := 3) (oi := { dst := some 79, op := Op.fieldAddr 153 (Operand.tmp 78) 0, type := 0, pos := "buffer.go:169", after := #[{ on := 2, ground := Ground.data }], guard := none }) (v := .pointer (some ⟨b, 0, none⟩)) rfl (by kernel_rfl) (by kernel_rfl) (by kernel_rfl) (by kernel_rfl) (fun _ _ _ h => h) (Or.inl ⟨by rfl, fun w9 hS9 => ?_⟩) hHeld ?_
  · obtain ⟨g0, g1⟩ := hS9
    go_simp
  simp only [Act.put, List.setIfInBounds_toArray, List.set_cons_zero, List.set_cons_succ]
  refine wpAnyL_take (i := 4) (oi := { dst := some 80, op := Op.load 62 (Operand.tmp 79), type := 62, pos := "buffer.go:169", after := #[{ on := 3, ground := Ground.data }], guard := none }) (v := .slice (some ⟨g, 0, none⟩) l cap) rfl (by kernel_rfl) (by kernel_rfl) (by kernel_rfl) (by kernel_rfl) (fun _ _ _ h => h) (Or.inl ⟨by rfl, fun w9 hS9 => ?_⟩) hHeld ?_
  · obtain ⟨g0, g1⟩ := hS9
    go_simp
  simp only [Act.put, List.setIfInBounds_toArray, List.set_cons_zero, List.set_cons_succ]
  refine wpAnyL_take (i := 5) (oi := { dst := some 81, op := Op.move (Operand.tmp 0), type := 172, pos := "buffer.go:169", after := #[], guard := none }) (v := .pointer (some ⟨b, 0, none⟩)) rfl (by kernel_rfl) (by kernel_rfl) (by kernel_rfl) (by kernel_rfl) (fun _ _ _ h => h) (Or.inl ⟨by rfl, fun w9 hS9 => ?_⟩) hHeld ?_
  · obtain ⟨g0, g1⟩ := hS9
    go_simp
  simp only [Act.put, List.setIfInBounds_toArray, List.set_cons_zero, List.set_cons_succ]
  refine wpAnyL_take (i := 6) (oi := { dst := some 82, op := Op.nilCheck (Operand.tmp 81), type := 0, pos := "buffer.go:169", after := #[{ on := 5, ground := Ground.data }], guard := none }) (v := .pointer (some ⟨b, 0, none⟩)) rfl (by kernel_rfl) (by kernel_rfl) (by kernel_rfl) (by kernel_rfl) (fun _ _ _ h => h) (Or.inl ⟨by rfl, fun w9 hS9 => ?_⟩) hHeld ?_
  · obtain ⟨g0, g1⟩ := hS9
    go_simp
  simp only [Act.put, List.setIfInBounds_toArray, List.set_cons_zero, List.set_cons_succ]
  refine wpAnyL_take (i := 7) (oi := { dst := some 83, op := Op.fieldAddr 153 (Operand.tmp 82) 1, type := 0, pos := "buffer.go:169", after := #[{ on := 6, ground := Ground.data }], guard := none }) (v := .pointer (some ⟨b, 1, none⟩)) rfl (by kernel_rfl) (by kernel_rfl) (by kernel_rfl) (by kernel_rfl) (fun _ _ _ h => h) (Or.inl ⟨by rfl, fun w9 hS9 => ?_⟩) hHeld ?_
  · obtain ⟨g0, g1⟩ := hS9
    go_simp
  simp only [Act.put, List.setIfInBounds_toArray, List.set_cons_zero, List.set_cons_succ]
  refine wpAnyL_take (i := 8) (oi := { dst := some 84, op := Op.load 3 (Operand.tmp 83), type := 3, pos := "buffer.go:169", after := #[{ on := 7, ground := Ground.data }], guard := none }) (v := .int .i64 (off : Int)) rfl (by kernel_rfl) (by kernel_rfl) (by kernel_rfl) (by kernel_rfl) (fun _ _ _ h => h) (Or.inl ⟨by rfl, fun w9 hS9 => ?_⟩) hHeld ?_
  · obtain ⟨g0, g1⟩ := hS9
    go_simp
  simp only [Act.put, List.setIfInBounds_toArray, List.set_cons_zero, List.set_cons_succ]
  refine wpAnyL_take (i := 9) (oi := { dst := some 85, op := Op.slice 62 (Operand.tmp 80) (some (Operand.tmp 84)) none none, type := 62, pos := "buffer.go:169", after := #[{ on := 4, ground := Ground.data }, { on := 8, ground := Ground.data }], guard := none }) (v := .slice (some ⟨g, off, none⟩) (l - off) (cap - off)) rfl (by kernel_rfl) (by kernel_rfl) (by kernel_rfl) (by kernel_rfl) (fun _ _ _ h => h) (Or.inl ⟨by rfl, fun w9 hS9 => ?_⟩) hHeld ?_
  · obtain ⟨g0, g1⟩ := hS9
    go_simp
  simp only [Act.put, List.setIfInBounds_toArray, List.set_cons_zero, List.set_cons_succ]
  refine wpAnyL_take (i := 10) (oi := { dst := some 86, op := Op.move (Operand.tmp 0), type := 172, pos := "buffer.go:169", after := #[], guard := none }) (v := .pointer (some ⟨b, 0, none⟩)) rfl (by kernel_rfl) (by kernel_rfl) (by kernel_rfl) (by kernel_rfl) (fun _ _ _ h => h) (Or.inl ⟨by rfl, fun w9 hS9 => ?_⟩) hHeld ?_
  · obtain ⟨g0, g1⟩ := hS9
    go_simp
  simp only [Act.put, List.setIfInBounds_toArray, List.set_cons_zero, List.set_cons_succ]
  refine wpAnyL_take (i := 11) (oi := { dst := some 87, op := Op.nilCheck (Operand.tmp 86), type := 0, pos := "buffer.go:169", after := #[{ on := 10, ground := Ground.data }], guard := none }) (v := .pointer (some ⟨b, 0, none⟩)) rfl (by kernel_rfl) (by kernel_rfl) (by kernel_rfl) (by kernel_rfl) (fun _ _ _ h => h) (Or.inl ⟨by rfl, fun w9 hS9 => ?_⟩) hHeld ?_
  · obtain ⟨g0, g1⟩ := hS9
    go_simp
  simp only [Act.put, List.setIfInBounds_toArray, List.set_cons_zero, List.set_cons_succ]
  refine wpAnyL_take (i := 12) (oi := { dst := some 88, op := Op.fieldAddr 153 (Operand.tmp 87) 1, type := 0, pos := "buffer.go:169", after := #[{ on := 11, ground := Ground.data }], guard := none }) (v := .pointer (some ⟨b, 1, none⟩)) rfl (by kernel_rfl) (by kernel_rfl) (by kernel_rfl) (by kernel_rfl) (fun _ _ _ h => h) (Or.inl ⟨by rfl, fun w9 hS9 => ?_⟩) hHeld ?_
  · obtain ⟨g0, g1⟩ := hS9
    go_simp
  simp only [Act.put, List.setIfInBounds_toArray, List.set_cons_zero, List.set_cons_succ]
  refine wpAnyL_take (i := 13) (oi := { dst := some 89, op := Op.load 3 (Operand.tmp 88), type := 3, pos := "buffer.go:169", after := #[{ on := 12, ground := Ground.data }], guard := none }) (v := .int .i64 (off : Int)) rfl (by kernel_rfl) (by kernel_rfl) (by kernel_rfl) (by kernel_rfl) (fun _ _ _ h => h) (Or.inl ⟨by rfl, fun w9 hS9 => ?_⟩) hHeld ?_
  · obtain ⟨g0, g1⟩ := hS9
    go_simp
  simp only [Act.put, List.setIfInBounds_toArray, List.set_cons_zero, List.set_cons_succ]
  refine wpAnyL_take (i := 14) (oi := { dst := some 90, op := Op.move (Operand.tmp 1), type := 3, pos := "buffer.go:169", after := #[], guard := none }) (v := .int .i64 512) rfl (by kernel_rfl) (by kernel_rfl) (by kernel_rfl) (by kernel_rfl) (fun _ _ _ h => h) (Or.inl ⟨by rfl, fun w9 hS9 => ?_⟩) hHeld ?_
  · obtain ⟨g0, g1⟩ := hS9
    go_simp
  simp only [Act.put, List.setIfInBounds_toArray, List.set_cons_zero, List.set_cons_succ]
  refine wpAnyL_take (i := 15) (oi := { dst := some 91, op := Op.binOp BinOp.add 3 (Operand.tmp 89) (Operand.tmp 90) 3, type := 3, pos := "buffer.go:169", after := #[{ on := 13, ground := Ground.data }, { on := 14, ground := Ground.data }], guard := none }) (v := .int .i64 (N : Int)) rfl (by kernel_rfl) (by kernel_rfl) (by kernel_rfl) (by kernel_rfl) (fun _ _ _ h => h) (Or.inl ⟨by rfl, fun w9 hS9 => ?_⟩) hHeld ?_
  · obtain ⟨g0, g1⟩ := hS9
    go_simp
  simp only [Act.put, List.setIfInBounds_toArray, List.set_cons_zero, List.set_cons_succ]
  refine wpAnyL_one (i := 16) (o := { dst := some 92, op := Op.call { callee := Callee.value (Operand.func 123), args := #[Operand.tmp 85, Operand.tmp 91], argTypes := #[62, 3] }, type := 62, pos := "buffer.go:169", after := #[{ on := 9, ground := Ground.data }, { on := 15, ground := Ground.data }], guard := none }) rfl (by kernel_rfl) (fun K9 hK9 => ?_)
  go_simp
  refine (HGR.out _ (by exact kg.out) (by exact kz.out)).mono ?_
  rintro e w3 ⟨cap2, R, rfl, hn2, hr1, hr2, hr3, hr4, hbel⟩
  have hbk : Blk w3 b 153 (bufCells (.slice (some ⟨g, 0, none⟩) l cap) off lr) := (hbel.block b kbl).trans kb.out
  have d0 : w3.cell? ⟨b, 0, none⟩ = some (.slice (some ⟨g, 0, none⟩) l cap) := by rw [hbk.cell]; rfl
  have d1 : w3.cell? ⟨b, 1, none⟩ = some (.int .i64 (off : Int)) := by rw [hbk.cell]; rfl
  have e0 := hbk.frozen 0
  have e1 := hbk.frozen 1
  refine hK9.out _ _ (.inr ⟨d0, d1⟩) (fun _ => ?_)
  clear hK9 K9
  try simp only [Act.put, List.setIfInBounds_toArray, List.set_cons_zero, List.set_cons_succ]
  have hHeld2 := And.intro d0 d1
  refine wpAnyL_one (i := 17) (o := { dst := some 93, op := Op.nilCheck (Operand.tmp 76), type := 0, pos := "buffer.go:169", after := #[{ on := 0, ground := Ground.data }, { on := 0, ground := Ground.phase }, { on := 1, ground := Ground.phase }, { on := 2, ground := Ground.phase }, { on := 3, ground := Ground.phase }, { on := 4, ground := Ground.phase }, { on := 5, ground := Ground.phase }, { on := 6, ground := Ground.phase }, { on := 7, ground := Ground.phase }, { on := 8, ground := Ground.phase }, { on := 9, ground := Ground.phase }, { on := 10, ground := Ground.phase }, { on := 11, ground := Ground.phase }, { on := 12, ground := Ground.phase }, { on := 13, ground := Ground.phase }, { on := 14, ground := Ground.phase }, { on := 15, ground := Ground.phase }, { on := 16, ground := Ground.phase }], guard := none }) rfl (by kernel_rfl) (fun K9 hK9 => ?_)
  go_simp
  refine hK9.out _ _ (.inr ⟨d0, d1⟩) (fun _ => ?_)
  clear hK9 K9
  try simp only [Act.put, List.setIfInBounds_toArray, List.set_cons_zero, List.set_cons_succ]
  refine wpAnyL_one (i := 18) (o := { dst := some 94, op := Op.fieldAddr 153 (Operand.tmp 93) 0, type := 0, pos := "buffer.go:169", after := #[{ on := 17, ground := Ground.data }, { on := 0, ground := Ground.phase }, { on := 1, ground := Ground.phase }, { on := 2, ground := Ground.phase }, { on := 3, ground := Ground.phase }, { on := 4, ground := Ground.phase }, { on := 5, ground := Ground.phase }, { on := 6, ground := Ground.phase }, { on := 7, ground := Ground.phase }, { on := 8, ground := Ground.phase }, { on := 9, ground := Ground.phase }, { on := 10, ground := Ground.phase }, { on := 11, ground := Ground.phase }, { on := 12, ground := Ground.phase }, { on := 13, ground := Ground.phase }, { on := 14, ground := Ground.phase }, { on := 15, ground := Ground.phase }, { on := 16, ground := Ground.phase }], guard := none }) rfl (by kernel_rfl) (fun K9 hK9 => ?_)
  go_simp
  refine hK9.out _ _ (.inr ⟨d0, d1⟩) (fun _ => ?_)
  clear hK9 K9
  try simp only [Act.put, List.setIfInBounds_toArray, List.set_cons_zero, List.set_cons_succ]
  refine wpAnyL_one (i := 19) (o := { dst := none, op := Op.store 62 (Operand.tmp 94) (Operand.tmp 92), type := 0, pos := "buffer.go:169", after := #[{ on := 18, ground := Ground.data }, { on := 16, ground := Ground.data }, { on := 16, ground := Ground.chain }, { on := 0, ground := Ground.phase }, { on := 1, ground := Ground.phase }, { on := 2, ground := Ground.phase }, { on := 3, ground := Ground.phase }, { on := 4, ground := Ground.phase }, { on := 5, ground := Ground.phase }, { on := 6, ground := Ground.phase }, { on := 7, ground := Ground.phase }, { on := 8, ground := Ground.phase }, { on := 9, ground := Ground.phase }, { on := 10, ground := Ground.phase }, { on := 11, ground := Ground.phase }, { on := 12, ground := Ground.phase }, { on := 13, ground := Ground.phase }, { on := 14, ground := Ground.phase }, { on := 15, ground := Ground.phase }, { on := 16, ground := Ground.phase }], guard := none }) rfl (by kernel_rfl) (fun K9 hK9 => ?_)
  go_simp
  refine hK9.out _ _ (.inl rfl) (fun _ => ?_)
  clear hK9 K9
  try simp only [Act.put, List.setIfInBounds_toArray, List.set_cons_zero, List.set_cons_succ]
  refine wpAnyL_done (by kernel_rfl) ?_ _
  -- REGION END

  have HFIN : Hid (∀ u0, GrowB b g D w (.returned (.int .i64 (m : Int))) (((w3.setCell ⟨b, 0, none⟩ u0).setCell ⟨b, 1, none⟩ (.int .i64 0)).setCell ⟨b, 0, none⟩ (.slice (some ⟨w.heap.size, 0, none⟩) (m + 512) cap2))) := Lib.hid (fun u0 => by
    have hnb : w.heap.size ≠ b := by omega
    refine ⟨by rw [HM.out], w.heap.size, cap2, lr, (bys R).toArray, ?_, ?_, ?_, ?_, ?_, hr4, hnb, .inr (Nat.le_refl _), ?_⟩
    · rw [HM.out]
      exact ((hbk.set_ 0 _).set_ 1 _).set_ 0 _
    · rw [Below.heap_setCell _ _ _ _ hnb, Below.heap_setCell _ _ _ _ hnb, Below.heap_setCell _ _ _ _ hnb]
      exact hn2
    · simp [length_bys, hr1]
    · rw [HM.out, ← hr2, bys_take]
    · rw [HM.out]; have := HN.out; omega
    · have hf : Far [b, g] w w3 := kf.out.trans (Far.of_below hbel)
      exact ((hf.setCell (p := ⟨b, 0, none⟩) (.inl (by simp)) _).setCell (p := ⟨b, 1, none⟩) (.inl (by simp)) _).setCell (p := ⟨b, 0, none⟩) (.inl (by simp)) _)
  have v16 : (m : Int) + 512 ≤ (cap2 : Int) := by have := HN.out; omega
  clear hr1 hr2 hr3 hn2 hbel hbk
  go_wp2
  go_ret
  exact HFIN.out _
/-- What grow of the empty buffer leaves. -/
def GrowN (b : Nat) (w : World) (e : Ending) (w' : World) : Prop :=
  e = .returned (.int .i64 0) ∧ ∃ g2 cap2 lr cur2, Blk w' b 153 (bufCells (.slice (some ⟨g2, 0, none⟩) 512 cap2) 0 lr) ∧ w'.heap[g2]? = some (.cells cur2 5 (0, 0)) ∧ cur2.size = cap2 ∧ 512 ≤ cap2 ∧ cap2 ≤ maxLen ∧ g2 ≠ b ∧ w.heap.size ≤ g2 ∧ Far [b] w w'
set_option maxRecDepth 20000 in
set_option maxHeartbeats 3200000 in
theorem bufGrowNil (b : Nat) (lr : Int) (w : World) (h : Blk w b 153 (bufCells (.slice none 0 0) 0 lr)) :
    Calls Tryd.prog 102 #[.pointer (some ⟨b, 0, none⟩), .int .i64 512] w (GrowN b w) := by
  have c0 : w.cell? ⟨b, 0, none⟩ = some (.slice none 0 0) := by rw [h.cell]; rfl
  have c1 : w.cell? ⟨b, 1, none⟩ = some (.int .i64 0) := by rw [h.cell]; rfl
  have f0 := h.frozen 0
  have f1 := h.frozen 1
  have hbl := h.lt
  have hq := fun w => Lib.run_eql_slice_nil_nil (P := Tryd.prog) w 0 0 Tryd.underlying62
  have HLN := fun w h0 => Lib.hid (bufLen b 0 0 0 lr none w h0 (by omega) (by omega))
  have HTG := fun w h0 => Lib.hid (Tryd.Buffer_tryGrow_none b none 0 0 512 w h0 (Nat.le_refl _) (Nat.zero_le _) (by omega))
  have HBLK := Lib.hid h
  clear h
  go_enter Tryd.func102, Tryd.ntmps102
  go_wp2_with fail
  refine (HLN _ HBLK.out).out.mono ?_
  rintro e w1 ⟨rfl, rfl⟩
  go_wp2_with fail
  refine (HTG _ (by exact c0)).out.mono ?_
  rintro e w2 ⟨rfl, rfl⟩
  go_wp2_with fail
  have k0 : w.drew.drew.cell? ⟨b, 0, none⟩ = some (.slice none 0 0) := c0
  have k1 : w.drew.drew.cell? ⟨b, 1, none⟩ = some (.int .i64 0) := c1
  have kb : Hid (Blk w.drew.drew b 153 (bufCells (.slice none 0 0) 0 lr)) := Lib.hid (HBLK.out.drewN 2)
  have kf : Hid (Far [b] w w.drew.drew) := Lib.hid (Far.refl _ _).drew.drew
  have kbl : b < w.drew.drew.heap.size := hbl
  have vw : IntKind.i64.wrap 512 = 512 := IntWalk.i64_in _ (by omega)
  -- NIL BEGIN
  refine wp_region_last (t := 19) (S := fun w' => w'.cell? ⟨b, 0, none⟩ = some (.slice none 0 0) ∧ w'.cell? ⟨b, 1, none⟩ = some (.int .i64 0)) (by kernel_rfl) ⟨k0, k1⟩ (fun hHeld => ?_)
  refine wpAnyL_take (i := 0) (oi := { dst := some 76, op := Op.move (Operand.tmp 0), type := 172, pos := "buffer.go:169", after := #[], guard := none }) (v := .pointer (some ⟨b, 0, none⟩)) rfl (by kernel_rfl) (by kernel_rfl) (by kernel_rfl) (by kernel_rfl) (fun _ _ _ h => h) (Or.inl ⟨by rfl, fun w9 hS9 => ?_⟩) hHeld ?_
  · obtain ⟨g0, g1⟩ := hS9
    go_simp
  simp only [Act.put, List.setIfInBounds_toArray, List.set_cons_zero, List.set_cons_succ]
  refine wpAnyL_take (i := 1) (oi := { dst := some 77, op := Op.move (Operand.tmp 0), type := 172, pos := "buffer.go:169", after := #[], guard := none }) (v := .pointer (some ⟨b, 0, none⟩)) rfl (by kernel_rfl) (by kernel_rfl) (by kernel_rfl) (by kernel_rfl) (fun _ _ _ h => h) (Or.inl ⟨by rfl, fun w9 hS9 => ?_⟩) hHeld ?_
  · obtain ⟨g0, g1⟩ := hS9
    go_simp
  simp only [Act.put, List.setIfInBounds_toArray, List.set_cons_zero, List.set_cons_succ]
  refine wpAnyL_take (i := 2) (oi := { dst := some 78, op := Op.nilCheck (Operand.tmp 77), type := 0, pos := "buffer.go:169", after := #[{ on := 1, ground := Ground.data }], guard := none }) (v := .pointer (some ⟨b, 0, none⟩)) rfl (by kernel_rfl) (by kernel_rfl) (by kernel_rfl) (by kernel_rfl) (fun _ _ _ h => h) (Or.inl ⟨by rfl, fun w9 hS9 => ?_⟩) hHeld ?_
  · obtain ⟨g0, g1⟩ := hS9
    go_simp
  simp only [Act.put, List.setIfInBounds_toArray, List.set_cons_zero, List.set_cons_succ]
  refine wpAnyL_take (i := 3) (oi := { dst := some 79, op := Op.fieldAddr 153 (Operand.tmp 78) 0, type := 0, pos := "buffer.go:169", after := #[{ on := 2, ground := Ground.data }], guard := none }) (v := .pointer (some ⟨b, 0, none⟩)) rfl (by kernel_rfl) (by kernel_rfl) (by kernel_rfl) (by kernel_rfl) (fun _ _ _ h => h) (Or.inl ⟨by rfl, fun w9 hS9 => ?_⟩) hHeld ?_
  · obtain ⟨g0, g1⟩ := hS9
    go_simp
  simp only [Act.put, List.setIfInBounds_toArray, List.set_cons_zero, List.set_cons_succ]
  refine wpAnyL_take (i := 4) (oi := { dst := some 80, op := Op.load 62 (Operand.tmp 79), type := 62, pos := "buffer.go:169", after := #[{ on := 3, ground := Ground.data }], guard := none }) (v := .slice none 0 0) rfl (by kernel_rfl) (by kernel_rfl) (by kernel_rfl) (by kernel_rfl) (fun _ _ _ h => h) (Or.inl ⟨by rfl, fun w9 hS9 => ?_⟩) hHeld ?_
  · obtain ⟨g0, g1⟩ := hS9
    go_simp
  simp only [Act.put, List.setIfInBounds_toArray, List.set_cons_zero, List.set_cons_succ]
  refine wpAnyL_take (i := 5) (oi := { dst := some 81, op := Op.move (Operand.tmp 0), type := 172, pos := "buffer.go:169", after := #[], guard := none }) (v := .pointer (some ⟨b, 0, none⟩)) rfl (by kernel_rfl) (by kernel_rfl) (by kernel_rfl) (by kernel_rfl) (fun _ _ _ h => h) (Or.inl ⟨by rfl, fun w9 hS9 => ?_⟩) hHeld ?_
  · obtain ⟨g0, g1⟩ := hS9
    go_simp
  simp only [Act.put, List.setIfInBounds_toArray, List.set_cons_zero, List.set_cons_succ]
  refine wpAnyL_take (i := 6) (oi := { dst := some 82, op := Op.nilCheck (Operand.tmp 81), type := 0, pos := "buffer.go:169", after := #[{ on := 5, ground := Ground.data }], guard := none }) (v := .pointer (some ⟨b, 0, none⟩)) rfl (by kernel_rfl) (by kernel_rfl) (by kernel_rfl) (by kernel_rfl) (fun _ _ _ h => h) (Or.inl ⟨by rfl, fun w9 hS9 => ?_⟩) hHeld ?_
  · obtain ⟨g0, g1⟩ := hS9
    go_simp
  simp only [Act.put, List.setIfInBounds_toArray, List.set_cons_zero, List.set_cons_succ]
  refine wpAnyL_take (i := 7) (oi := { dst := some 83, op := Op.fieldAddr 153 (Operand.tmp 82) 1, type := 0, pos := "buffer.go:169", after := #[{ on := 6, ground := Ground.data }], guard := none }) (v := .pointer (some ⟨b, 1, none⟩)) rfl (by kernel_rfl) (by kernel_rfl) (by kernel_rfl) (by kernel_rfl) (fun _ _ _ h => h) (Or.inl ⟨by rfl, fun w9 hS9 => ?_⟩) hHeld ?_
  · obtain ⟨g0, g1⟩ := hS9
    go_simp
  simp only [Act.put, List.setIfInBounds_toArray, List.set_cons_zero, List.set_cons_succ]
  refine wpAnyL_take (i := 8) (oi := { dst := some 84, op := Op.load 3 (Operand.tmp 83), type := 3, pos := "buffer.go:169", after := #[{ on := 7, ground := Ground.data }], guard := none }) (v := .int .i64 0) rfl (by kernel_rfl) (by kernel_rfl) (by kernel_rfl) (by kernel_rfl) (fun _ _ _ h => h) (Or.inl ⟨by rfl, fun w9 hS9 => ?_⟩) hHeld ?_
  · obtain ⟨g0, g1⟩ := hS9
    go_simp
  simp only [Act.put, List.setIfInBounds_toArray, List.set_cons_zero, List.set_cons_succ]
  refine wpAnyL_take (i := 9) (oi := { dst := some 85, op := Op.slice 62 (Operand.tmp 80) (some (Operand.tmp 84)) none none, type := 62, pos := "buffer.go:169", after := #[{ on := 4, ground := Ground.data }, { on := 8, ground := Ground.data }], guard := none }) (v := .slice none 0 0) rfl (by kernel_rfl) (by kernel_rfl) (by kernel_rfl) (by kernel_rfl) (fun _ _ _ h => h) (Or.inl ⟨by rfl, fun w9 hS9 => ?_⟩) hHeld ?_
  · obtain ⟨g0, g1⟩ := hS9
    go_simp
  simp only [Act.put, List.setIfInBounds_toArray, List.set_cons_zero, List.set_cons_succ]
  refine wpAnyL_take (i := 10) (oi := { dst := some 86, op := Op.move (Operand.tmp 0), type := 172, pos := "buffer.go:169", after := #[], guard := none }) (v := .pointer (some ⟨b, 0, none⟩)) rfl (by kernel_rfl) (by kernel_rfl) (by kernel_rfl) (by kernel_rfl) (fun _ _ _ h => h) (Or.inl ⟨by rfl, fun w9 hS9 => ?_⟩) hHeld ?_
  · obtain ⟨g0, g1⟩ := hS9
    go_simp
  simp only [Act.put, List.setIfInBounds_toArray, List.set_cons_zero, List.set_cons_succ]
  refine wpAnyL_take (i := 11) (oi := { dst := some 87, op := Op.nilCheck (Operand.tmp 86), type := 0, pos := "buffer.go:169", after := #[{ on := 10, ground := Ground.data }], guard := none }) (v := .pointer (some ⟨b, 0, none⟩)) rfl (by kernel_rfl) (by kernel_rfl) (by kernel_rfl) (by kernel_rfl) (fun _ _ _ h => h) (Or.inl ⟨by rfl, fun w9 hS9 => ?_⟩) hHeld ?_
  · obtain ⟨g0, g1⟩ := hS9
    go_simp
  simp only [Act.put, List.setIfInBounds_toArray, List.set_cons_zero, List.set_cons_succ]
  refine wpAnyL_take (i := 12) (oi := { dst := some 88, op := Op.fieldAddr 153 (Operand.tmp 87) 1, type := 0, pos := "buffer.go:169", after := #[{ on := 11, ground := Ground.data }], guard := none }) (v := .pointer (some ⟨b, 1, none⟩)) rfl (by kernel_rfl) (by kernel_rfl) (by kernel_rfl) (by kernel_rfl) (fun _ _ _ h => h) (Or.inl ⟨by rfl, fun w9 hS9 => ?_⟩) hHeld ?_
  · obtain ⟨g0, g1⟩ := hS9
    go_simp
  simp only [Act.put, List.setIfInBounds_toArray, List.set_cons_zero, List.set_cons_succ]
  refine wpAnyL_take (i := 13) (oi := { dst := some 89, op := Op.load 3 (Operand.tmp 88), type := 3, pos := "buffer.go:169", after := #[{ on := 12, ground := Ground.data }], guard := none }) (v := .int .i64 0) rfl (by kernel_rfl) (by kernel_rfl) (by kernel_rfl) (by kernel_rfl) (fun _ _ _ h => h) (Or.inl ⟨by rfl, fun w9 hS9 => ?_⟩) hHeld ?_
  · obtain ⟨g0, g1⟩ := hS9
    go_simp
  simp only [Act.put, List.setIfInBounds_toArray, List.set_cons_zero, List.set_cons_succ]
  refine wpAnyL_take (i := 14) (oi := { dst := some 90, op := Op.move (Operand.tmp 1), type := 3, pos := "buffer.go:169", after := #[], guard := none }) (v := .int .i64 512) rfl (by kernel_rfl) (by kernel_rfl) (by kernel_rfl) (by kernel_rfl) (fun _ _ _ h => h) (Or.inl ⟨by rfl, fun w9 hS9 => ?_⟩) hHeld ?_
  · obtain ⟨g0, g1⟩ := hS9
    go_simp
  simp only [Act.put, List.setIfInBounds_toArray, List.set_cons_zero, List.set_cons_succ]
  refine wpAnyL_take (i := 15) (oi := { dst := some 91, op := Op.binOp BinOp.add 3 (Operand.tmp 89) (Operand.tmp 90) 3, type := 3, pos := "buffer.go:169", after := #[{ on := 13, ground := Ground.data }, { on := 14, ground := Ground.data }], guard := none }) (v := .int .i64 512) rfl (by kernel_rfl) (by kernel_rfl) (by kernel_rfl) (by kernel_rfl) (fun _ _ _ h => h) (Or.inl ⟨by rfl, fun w9 hS9 => ?_⟩) hHeld ?_
  · obtain ⟨g0, g1⟩ := hS9
    go_simp
  simp only [Act.put, List.setIfInBounds_toArray, List.set_cons_zero, List.set_cons_succ]
  refine wpAnyL_one (i := 16) (o := { dst := some 92, op := Op.call { callee := Callee.value (Operand.func 123), args := #[Operand.tmp 85, Operand.tmp 91], argTypes := #[62, 3] }, type := 62, pos := "buffer.go:169", after := #[{ on := 9, ground := Ground.data }, { on := 15, ground := Ground.data }], guard := none }) rfl (by kernel_rfl) (fun K9 hK9 => ?_)
  go_simp
  refine (Tryd.bytes_growSlice_nil 512 _ (by omega) (by omega)).mono ?_
  rintro e w3 ⟨cap2, R, rfl, hn2, hr1, hr3, hr4, hbel⟩
  have hbk : Blk w3 b 153 (bufCells (.slice none 0 0) 0 lr) := (hbel.block b kbl).trans kb.out
  have d0 : w3.cell? ⟨b, 0, none⟩ = some (.slice none 0 0) := by rw [hbk.cell]; rfl
  have d1 : w3.cell? ⟨b, 1, none⟩ = some (.int .i64 0) := by rw [hbk.cell]; rfl
  have e0 := hbk.frozen 0
  have e1 := hbk.frozen 1
  refine hK9.out _ _ (.inr ⟨d0, d1⟩) (fun _ => ?_)
  clear hK9 K9
  try simp only [Act.put, List.setIfInBounds_toArray, List.set_cons_zero, List.set_cons_succ]
  have hHeld2 := And.intro d0 d1
  refine wpAnyL_one (i := 17) (o := { dst := some 93, op := Op.nilCheck (Operand.tmp 76), type := 0, pos := "buffer.go:169", after := #[{ on := 0, ground := Ground.data }, { on := 0, ground := Ground.phase }, { on := 1, ground := Ground.phase }, { on := 2, ground := Ground.phase }, { on := 3, ground := Ground.phase }, { on := 4, ground := Ground.phase }, { on := 5, ground := Ground.phase }, { on := 6, ground := Ground.phase }, { on := 7, ground := Ground.phase }, { on := 8, ground := Ground.phase }, { on := 9, ground := Ground.phase }, { on := 10, ground := Ground.phase }, { on := 11, ground := Ground.phase }, { on := 12, ground := Ground.phase }, { on := 13, ground := Ground.phase }, { on := 14, ground := Ground.phase }, { on := 15, ground := Ground.phase }, { on := 16, ground := Ground.phase }], guard := none }) rfl (by kernel_rfl) (fun K9 hK9 => ?_)
  go_simp
  refine hK9.out _ _ (.inr ⟨d0, d1⟩) (fun _ => ?_)
  clear hK9 K9
  try simp only [Act.put, List.setIfInBounds_toArray, List.set_cons_zero, List.set_cons_succ]
  refine wpAnyL_one (i := 18) (o := { dst := some 94, op := Op.fieldAddr 153 (Operand.tmp 93) 0, type := 0, pos := "buffer.go:169", after := #[{ on := 17, ground := Ground.data }, { on := 0, ground := Ground.phase }, { on := 1, ground := Ground.phase }, { on := 2, ground := Ground.phase }, { on := 3, ground := Ground.phase }, { on := 4, ground := Ground.phase }, { on := 5, ground := Ground.phase }, { on := 6, ground := Ground.phase }, { on := 7, ground := Ground.phase }, { on := 8, ground := Ground.phase }, { on := 9, ground := Ground.phase }, { on := 10, ground := Ground.phase }, { on := 11, ground := Ground.phase }, { on := 12, ground := Ground.phase }, { on := 13, ground := Ground.phase }, { on := 14, ground := Ground.phase }, { on := 15, ground := Ground.phase }, { on := 16, ground := Ground.phase }], guard := none }) rfl (by kernel_rfl) (fun K9 hK9 => ?_)
  go_simp
  refine hK9.out _ _ (.inr ⟨d0, d1⟩) (fun _ => ?_)
  clear hK9 K9
  try simp only [Act.put, List.setIfInBounds_toArray, List.set_cons_zero, List.set_cons_succ]
  refine wpAnyL_one (i := 19) (o := { dst := none, op := Op.store 62 (Operand.tmp 94) (Operand.tmp 92), type := 0, pos := "buffer.go:169", after := #[{ on := 18, ground := Ground.data }, { on := 16, ground := Ground.data }, { on := 16, ground := Ground.chain }, { on := 0, ground := Ground.phase }, { on := 1, ground := Ground.phase }, { on := 2, ground := Ground.phase }, { on := 3, ground := Ground.phase }, { on := 4, ground := Ground.phase }, { on := 5, ground := Ground.phase }, { on := 6, ground := Ground.phase }, { on := 7, ground := Ground.phase }, { on := 8, ground := Ground.phase }, { on := 9, ground := Ground.phase }, { on := 10, ground := Ground.phase }, { on := 11, ground := Ground.phase }, { on := 12, ground := Ground.phase }, { on := 13, ground := Ground.phase }, { on := 14, ground := Ground.phase }, { on := 15, ground := Ground.phase }, { on := 16, ground := Ground.phase }], guard := none }) rfl (by kernel_rfl) (fun K9 hK9 => ?_)
  go_simp
  refine hK9.out _ _ (.inl rfl) (fun _ => ?_)
  clear hK9 K9
  try simp only [Act.put, List.setIfInBounds_toArray, List.set_cons_zero, List.set_cons_succ]
  refine wpAnyL_done (by kernel_rfl) ?_ _
  -- NIL END

  have HFIN : Hid (∀ u0, GrowN b w (.returned (.int .i64 0)) (((w3.setCell ⟨b, 0, none⟩ u0).setCell ⟨b, 1, none⟩ (.int .i64 0)).setCell ⟨b, 0, none⟩ (.slice (some ⟨w.heap.size, 0, none⟩) 512 cap2))) := Lib.hid (fun u0 => by
    have hnb : w.heap.size ≠ b := by omega
    refine ⟨rfl, w.heap.size, cap2, lr, R, ((hbk.set_ 0 _).set_ 1 _).set_ 0 _, ?_, hr1, hr3, hr4, hnb, Nat.le_refl _, ?_⟩
    · rw [Below.heap_setCell _ _ _ _ hnb, Below.heap_setCell _ _ _ _ hnb, Below.heap_setCell _ _ _ _ hnb]
      exact hn2
    · have hf : Far [b] w w3 := kf.out.trans (Far.of_below hbel)
      exact ((hf.setCell (p := ⟨b, 0, none⟩) (.inl (by simp)) _).setCell (p := ⟨b, 1, none⟩) (.inl (by simp)) _).setCell (p := ⟨b, 0, none⟩) (.inl (by simp)) _)
  have v16 : (512 : Int) ≤ (cap2 : Int) := by omega
  clear hr1 hr3 hn2 hbel hbk
  go_wp2
  go_ret
  exact HFIN.out _
end Go.Proofs.YtlchagphjmfooaaDoor
