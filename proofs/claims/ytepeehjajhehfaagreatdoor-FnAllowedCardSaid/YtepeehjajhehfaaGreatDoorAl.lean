/- (Header).allowedFormats: its walk. -/
import Derived.Test.YtepeehjajhehfaaGreatDoorMB2
import Derived.Deep.CutBlock
import Derived.Deep.DeepCutAuto
namespace Go.Proofs.YtepeehjajhehfaaGreatDoor
open Go.RowKit Go.PlainAid Go.Maps Go.ChangeMaps Go.MapKept Go.WideMaps
set_option linter.unusedVariables false

theorem basNone : bas ⟨#[]⟩ = false ∧ spk ⟨#[]⟩ = false := by decide
theorem fe_size (h : Hd) (mx an ax cn cx : Int) (ok : h.Ok) (hs : h.name.size ≤ 2147483647 ∧ h.link.size ≤ 2147483647 ∧ h.un.size ≤ 2147483647 ∧ h.gn.size ≤ 2147483647) : ∀ y, FE h mx an ax cn cx y → y.1.size ≤ 4000000000 ∧ y.2.size ≤ 4000000000 := fun y hy => by
  obtain ⟨s1, s2, s3, s4⟩ := hs
  cases hy with
  | name => exact ⟨by show (4 : Nat) ≤ _; omega, by show h.name.size ≤ _; omega⟩
  | link => exact ⟨by show (8 : Nat) ≤ _; omega, by show h.link.size ≤ _; omega⟩
  | un => exact ⟨by show (5 : Nat) ≤ _; omega, by show h.un.size ≤ _; omega⟩
  | gn => exact ⟨by show (5 : Nat) ≤ _; omega, by show h.gn.size ≤ _; omega⟩
  | uid => have h9 := intL_size h.uid ok.uid.1 ok.uid.2; exact ⟨by show (3 : Nat) ≤ _; omega, by show (mkS (intL h.uid)).size ≤ _; omega⟩
  | gid => have h9 := intL_size h.gid ok.gid.1 ok.gid.2; exact ⟨by show (3 : Nat) ≤ _; omega, by show (mkS (intL h.gid)).size ≤ _; omega⟩
  | size => have h9 := intL_size h.size ok.size.1 ok.size.2; exact ⟨by show (4 : Nat) ≤ _; omega, by show (mkS (intL h.size)).size ≤ _; omega⟩
  | mt T hT => obtain ⟨_, _, _, _, _, _, h3, _⟩ := hT; exact ⟨by show (5 : Nat) ≤ _; omega, by show T.size ≤ _; omega⟩
  | at_ T hT => obtain ⟨_, _, _, _, _, _, h3, _⟩ := hT; exact ⟨by show (5 : Nat) ≤ _; omega, by show T.size ≤ _; omega⟩
  | ct T hT => obtain ⟨_, _, _, _, _, _, h3, _⟩ := hT; exact ⟨by show (5 : Nat) ≤ _; omega, by show T.size ≤ _; omega⟩
theorem strLen (b : Bool) {s : ByteArray} {l : List UInt8} (h : (s.data.toList == l) = b) : (s.toList == l) = b := by rw [Lib.toList_data]; exact h
theorem keyNone : kNone.toList.isEmpty = true ∧ (kNone.toList = [] ↔ true = true) := by rw [Lib.toList_data]; exact ⟨rfl, ⟨fun _ => rfl, fun _ => rfl⟩⟩
theorem keySome {k : ByteArray} (h : k.data.toList.isEmpty = false) : k.toList.isEmpty = false ∧ (k.toList = [] ↔ false = true) := by
  rw [Lib.toList_data]
  exact ⟨h, ⟨(fun e => by rw [e] at h; cases h), (fun e => by cases e)⟩⟩
set_option maxRecDepth 20000 in
set_option maxHeartbeats 64000000 in
theorem allowed (h : Hd) (mx an ax cn cx : Int) (pm : Option Nat) (R : List (ByteArray × ByteArray)) (w : World) (ok : h.Ok) (hR : RMap w.heap.size pm R w) (hT : Tab w) (hBK : BK w.heap.size w) (hRn : ∀ q, pm = some q → R ≠ []) (hRs : ∀ x ∈ R, x.1.size ≤ 2147483647 ∧ x.2.size ≤ 2147483647) (hRl : R.length ≤ 2147483647) (hnz : ¬ (h.mn = 0 ∧ mx = 0))
    (ht1 : 0 ≤ h.mn ∧ h.mn < 1000000000) (ht2 : 0 ≤ an ∧ an < 1000000000) (ht3 : 0 ≤ cn ∧ cn < 1000000000) (hs : h.name.size ≤ 2147483647 ∧ h.link.size ≤ 2147483647 ∧ h.un.size ≤ 2147483647 ∧ h.gn.size ≤ 2147483647) :
    Calls Tryz.prog 51 #[.agg (h.tcells mx an ax cn cx pm).toArray] w (AllP h mx an ax cn cx R w) := by
  have hmm := @run_makeMap Tryz.prog
  have OK := ok
  have HT : Hid (∀ w', Below w.heap.size w w' → Tab w') := Lib.hid (fun w' hb => tab_below hT hb)
  have HT1 := Lib.hid ht1
  have HT2 := Lib.hid ht2
  have HT3 := Lib.hid ht3
  have HSZ := Lib.hid hs
  have HOK := Lib.hid ok
  have HRM := Lib.hid hR
  have HBK := Lib.hid hBK
  have HRN := Lib.hid hRn
  have HRS := Lib.hid hRs
  have HRL := Lib.hid hRl
  have HNZ := Lib.hid hnz
  obtain ⟨X, hX⟩ : ∃ X, (h.tcells mx an ax cn cx pm).toArray = X := ⟨_, rfl⟩
  have HX := Lib.hid hX
  rw [hX]
  clear hnz hBK hRn hRs hRl ok OK hT ht1 ht2 ht3 hs hR hX
  go_enter Tryz.func51, Tryz.ntmps51
  go_upto_region 12 with (first
    | (go_at_call 63; refine (to_toV7 _ _).mono ?_; rintro e w' ⟨rfl, rfl⟩)
    | (go_at_call 66; refine (to_toUSTAR _ _).mono ?_; rintro e w' ⟨rfl, rfl⟩)
    | (go_at_call 85; refine (to_toGNU _ _).mono ?_; rintro e w' ⟨rfl, rfl⟩))
  have HS : Hid (AF w.heap.size (h.tcells mx an ax cn cx pm) pm R true true true [] w (((((((((w.alloc (.cells X 75)).alloc (.cells #[.int .i64 14] 73)).alloc (.cells #[.map (some (w.heap.size + 1 + 1 + 1))] 72)).alloc (.map #[] 0)).alloc (.cells #[.string ⟨#[]⟩] 9)).alloc (.cells #[.string ⟨#[]⟩] 9)).alloc (.cells #[.string ⟨#[]⟩] 9)).alloc (.cells #[.bool false] 4)).alloc (.cells Tryz.zeroCells118 118))) := Lib.hid (by rw [← HX.out]; exact AF.start rfl rfl rfl rfl rfl rfl rfl rfl rfl rfl HRM.out)
  generalize ((((((((w.alloc (.cells X 75)).alloc (.cells #[.int .i64 14] 73)).alloc (.cells #[.map (some (w.heap.size + 1 + 1 + 1))] 72)).alloc (.map #[] 0)).alloc (.cells #[.string ⟨#[]⟩] 9)).alloc (.cells #[.string ⟨#[]⟩] 9)).alloc (.cells #[.string ⟨#[]⟩] 9)).alloc (.cells #[.bool false] 4)).alloc (.cells Tryz.zeroCells118 118) = w12 at HS ⊢
  obtain ⟨B, hB⟩ : ∃ B, w.heap.size = B := ⟨_, rfl⟩
  rw [hB] at HS HT HBK ⊢
  have HBB := Lib.hid hB
  clear hB HRM HX hmm
  simp only [Nat.add_assoc, Nat.reduceAdd]
  obtain ⟨L, hL⟩ : ∃ L : List (ByteArray × ByteArray), L = [] := ⟨_, rfl⟩
  have HL : Hid (L.length ≤ 0 ∧ ∀ y ∈ L, FR h mx an ax cn cx R y) := Lib.hid (by subst hL; exact ⟨Nat.le_refl _, fun y hy => by cases hy⟩)
  rw [← hL] at HS
  clear hL
  refine wp_region_held_drew (S := fun w' => w'.cell? ⟨B, 1, none⟩ = some (.string h.name) ∧ True) (by kernel_rfl) (⟨HS.out.drew.hd.cell 1, trivial⟩) (fun hHeld => ?_)
  refine wpAnyH_take (i := 0) (oi := ⟨some 35, .move (.tmp 9), 132, "common.go:423", #[], none⟩) (v := .func (.func 71) #[] #[.pointer (some ⟨B + 6, 0, none⟩), .pointer (some ⟨B + 1, 0, none⟩), .pointer (some ⟨B + 4, 0, none⟩), .pointer (some ⟨B + 5, 0, none⟩), .pointer (some ⟨B + 2, 0, none⟩), .pointer (some ⟨B, 0, none⟩)]) rfl (by kernel_rfl) (by kernel_rfl) (by kernel_rfl) (fun _ _ _ h => h) (Or.inl ⟨by rfl, fun w9 hS9 => ?_⟩) hHeld ?_
  · obtain ⟨g0, _⟩ := hS9
    go_simp
  simp only [Act.put, List.setIfInBounds_toArray, List.set_cons_zero, List.set_cons_succ]
  refine wpAnyH_take (i := 1) (oi := ⟨some 36, .fieldAddr 75 (.tmp 1) 1, 0, "common.go:423", #[], none⟩) (v := .pointer (some ⟨B, 1, none⟩)) rfl (by kernel_rfl) (by kernel_rfl) (by kernel_rfl) (fun _ _ _ h => h) (Or.inl ⟨by rfl, fun w9 hS9 => ?_⟩) hHeld ?_
  · obtain ⟨g0, _⟩ := hS9
    go_simp
  simp only [Act.put, List.setIfInBounds_toArray, List.set_cons_zero, List.set_cons_succ]
  refine wpAnyH_take (i := 2) (oi := ⟨some 37, .load 9 (.tmp 36), 9, "common.go:423", #[⟨1, .data⟩], none⟩) (v := .string h.name) rfl (by kernel_rfl) (by kernel_rfl) (by kernel_rfl) (fun _ _ _ h => h) (Or.inl ⟨by rfl, fun w9 hS9 => ?_⟩) hHeld ?_
  · obtain ⟨g0, _⟩ := hS9
    go_simp
  simp only [Act.put, List.setIfInBounds_toArray, List.set_cons_zero, List.set_cons_succ]
  refine wpAnyH_take (i := 3) (oi := ⟨some 38, .move (.tmp 13), 122, "common.go:423", #[], none⟩) (v := .pointer (some ⟨B + 8, 0, none⟩)) rfl (by kernel_rfl) (by kernel_rfl) (by kernel_rfl) (fun _ _ _ h => h) (Or.inl ⟨by rfl, fun w9 hS9 => ?_⟩) hHeld ?_
  · obtain ⟨g0, _⟩ := hS9
    go_simp
  simp only [Act.put, List.setIfInBounds_toArray, List.set_cons_zero, List.set_cons_succ]
  refine wpAnyH_ready (rs := [4]) (by kernel_rfl) (by simp) ?_
  refine AllReadyH.cons (o := ⟨some 39, .call { callee := .value (.func 86), args := #[.tmp 38], argTypes := #[122] }, 35, "common.go:423", #[⟨3, .data⟩], none⟩) rfl (fun K9 hK9 => ?_) AllReadyH.nil
  go_simp
  refine (fld_name _ _).mono ?_
  rintro e wV ⟨rfl, hwV⟩
  subst hwV
  refine hK9.out _ _ (hHeld) (fun hHeld1 => ?_)
  clear hK9 K9
  try simp only [Act.put, List.setIfInBounds_toArray, List.set_cons_zero, List.set_cons_succ]
  refine wpAnyH_take (i := 5) (oi := ⟨some 40, .call { callee := .builtin .len, args := #[.tmp 39], argTypes := #[35] }, 3, "common.go:423", #[⟨4, .data⟩], none⟩) (v := .int .i64 100) rfl (by kernel_rfl) (by kernel_rfl) (by kernel_rfl) (fun _ _ _ h => h) (Or.inl ⟨by rfl, fun w9 hS9 => ?_⟩) hHeld1 ?_
  · obtain ⟨g0, _⟩ := hS9
    go_simp
  simp only [Act.put, List.setIfInBounds_toArray, List.set_cons_zero, List.set_cons_succ]
  refine wpAnyH_ready (rs := [6]) (by kernel_rfl) (by simp) ?_
  refine AllReadyH.cons (o := ⟨some 41, .call { callee := .value (.tmp 35), args := #[.tmp 37, .tmp 40, .const (.string { data := #[78, 97, 109, 101] }), .const (.string { data := #[112, 97, 116, 104] })], argTypes := #[9, 3, 9, 9] }, 0, "common.go:423", #[⟨0, .data⟩, ⟨2, .data⟩, ⟨5, .data⟩, ⟨4, .chain⟩], none⟩) rfl (fun K9 hK9 => ?_) AllReadyH.nil
  go_simp
  refine (vStr h.name ⟨#[78, 97, 109, 101]⟩ ⟨#[112, 97, 116, 104]⟩ 100 true false _ HS.out.drew HSZ.out.1 (by decide) (by decide) (by decide) (by have := HL.out.1; omega) (strLen _ rfl) (strLen _ rfl)).mono ?_
  rintro e w13 ⟨rfl, k13, hk13, hA13⟩
  have HA13 := Lib.hid hA13
  have HL2 : Hid (((L ++ List.replicate k13 (⟨#[112, 97, 116, 104]⟩, h.name) : List (ByteArray × ByteArray))).length ≤ 2 ∧ ∀ y ∈ ((L ++ List.replicate k13 (⟨#[112, 97, 116, 104]⟩, h.name) : List (ByteArray × ByteArray))), FR h mx an ax cn cx R y) := Lib.hid (fe_step HL.out hk13 (.inl FE.name))
  clear hA13
  refine hK9.out _ _ (⟨HA13.out.hd.cell 1, trivial⟩) (fun hHeld2 => ?_)
  clear hK9 K9
  try simp only [Act.put, List.setIfInBounds_toArray, List.set_cons_zero, List.set_cons_succ]
  refine wpAnyH_done (by kernel_rfl) ?_ _
  clear HS HL hHeld hHeld1 hHeld2
  obtain ⟨L9, hL9⟩ : ∃ L9, (L ++ List.replicate k13 (⟨#[112, 97, 116, 104]⟩, h.name) : List (ByteArray × ByteArray)) = L9 := ⟨_, rfl⟩
  rw [hL9] at HA13 HL2
  clear hL9
  clear hk13 k13
  have HS := HA13
  have HL := HL2
  clear HA13 HL2
  obtain ⟨L, hL⟩ : ∃ L, L = L9 := ⟨_, rfl⟩
  rw [← hL] at HS HL
  clear hL L9
  go_upto_region 13 with fail
  refine wp_region_held_drew (S := fun w' => w'.cell? ⟨B, 2, none⟩ = some (.string h.link) ∧ True) (by kernel_rfl) (⟨HS.out.drew.hd.cell 2, trivial⟩) (fun hHeld => ?_)
  refine wpAnyH_take (i := 0) (oi := ⟨some 42, .move (.tmp 9), 132, "common.go:424", #[], none⟩) (v := .func (.func 71) #[] #[.pointer (some ⟨B + 6, 0, none⟩), .pointer (some ⟨B + 1, 0, none⟩), .pointer (some ⟨B + 4, 0, none⟩), .pointer (some ⟨B + 5, 0, none⟩), .pointer (some ⟨B + 2, 0, none⟩), .pointer (some ⟨B, 0, none⟩)]) rfl (by kernel_rfl) (by kernel_rfl) (by kernel_rfl) (fun _ _ _ h => h) (Or.inl ⟨by rfl, fun w9 hS9 => ?_⟩) hHeld ?_
  · obtain ⟨g0, _⟩ := hS9
    go_simp
  simp only [Act.put, List.setIfInBounds_toArray, List.set_cons_zero, List.set_cons_succ]
  refine wpAnyH_take (i := 1) (oi := ⟨some 43, .fieldAddr 75 (.tmp 1) 2, 0, "common.go:424", #[], none⟩) (v := .pointer (some ⟨B, 2, none⟩)) rfl (by kernel_rfl) (by kernel_rfl) (by kernel_rfl) (fun _ _ _ h => h) (Or.inl ⟨by rfl, fun w9 hS9 => ?_⟩) hHeld ?_
  · obtain ⟨g0, _⟩ := hS9
    go_simp
  simp only [Act.put, List.setIfInBounds_toArray, List.set_cons_zero, List.set_cons_succ]
  refine wpAnyH_take (i := 2) (oi := ⟨some 44, .load 9 (.tmp 43), 9, "common.go:424", #[⟨1, .data⟩], none⟩) (v := .string h.link) rfl (by kernel_rfl) (by kernel_rfl) (by kernel_rfl) (fun _ _ _ h => h) (Or.inl ⟨by rfl, fun w9 hS9 => ?_⟩) hHeld ?_
  · obtain ⟨g0, _⟩ := hS9
    go_simp
  simp only [Act.put, List.setIfInBounds_toArray, List.set_cons_zero, List.set_cons_succ]
  refine wpAnyH_take (i := 3) (oi := ⟨some 45, .move (.tmp 13), 122, "common.go:424", #[], none⟩) (v := .pointer (some ⟨B + 8, 0, none⟩)) rfl (by kernel_rfl) (by kernel_rfl) (by kernel_rfl) (fun _ _ _ h => h) (Or.inl ⟨by rfl, fun w9 hS9 => ?_⟩) hHeld ?_
  · obtain ⟨g0, _⟩ := hS9
    go_simp
  simp only [Act.put, List.setIfInBounds_toArray, List.set_cons_zero, List.set_cons_succ]
  refine wpAnyH_ready (rs := [4]) (by kernel_rfl) (by simp) ?_
  refine AllReadyH.cons (o := ⟨some 46, .call { callee := .value (.func 87), args := #[.tmp 45], argTypes := #[122] }, 35, "common.go:424", #[⟨3, .data⟩], none⟩) rfl (fun K9 hK9 => ?_) AllReadyH.nil
  go_simp
  refine (fld_linkName _ _).mono ?_
  rintro e wV ⟨rfl, hwV⟩
  subst hwV
  refine hK9.out _ _ (hHeld) (fun hHeld1 => ?_)
  clear hK9 K9
  try simp only [Act.put, List.setIfInBounds_toArray, List.set_cons_zero, List.set_cons_succ]
  refine wpAnyH_take (i := 5) (oi := ⟨some 47, .call { callee := .builtin .len, args := #[.tmp 46], argTypes := #[35] }, 3, "common.go:424", #[⟨4, .data⟩], none⟩) (v := .int .i64 100) rfl (by kernel_rfl) (by kernel_rfl) (by kernel_rfl) (fun _ _ _ h => h) (Or.inl ⟨by rfl, fun w9 hS9 => ?_⟩) hHeld1 ?_
  · obtain ⟨g0, _⟩ := hS9
    go_simp
  simp only [Act.put, List.setIfInBounds_toArray, List.set_cons_zero, List.set_cons_succ]
  refine wpAnyH_ready (rs := [6]) (by kernel_rfl) (by simp) ?_
  refine AllReadyH.cons (o := ⟨some 48, .call { callee := .value (.tmp 42), args := #[.tmp 44, .tmp 47, .const (.string { data := #[76, 105, 110, 107, 110, 97, 109, 101] }), .const (.string { data := #[108, 105, 110, 107, 112, 97, 116, 104] })], argTypes := #[9, 3, 9, 9] }, 0, "common.go:424", #[⟨0, .data⟩, ⟨2, .data⟩, ⟨5, .data⟩, ⟨4, .chain⟩], none⟩) rfl (fun K9 hK9 => ?_) AllReadyH.nil
  go_simp
  refine (vStr h.link ⟨#[76, 105, 110, 107, 110, 97, 109, 101]⟩ ⟨#[108, 105, 110, 107, 112, 97, 116, 104]⟩ 100 false true _ HS.out.drew HSZ.out.2.1 (by decide) (by decide) (by decide) (by have := HL.out.1; omega) (strLen _ rfl) (strLen _ rfl)).mono ?_
  rintro e w13 ⟨rfl, k13, hk13, hA13⟩
  have HA13 := Lib.hid hA13
  have HL2 : Hid (((L ++ List.replicate k13 (⟨#[108, 105, 110, 107, 112, 97, 116, 104]⟩, h.link) : List (ByteArray × ByteArray))).length ≤ 4 ∧ ∀ y ∈ ((L ++ List.replicate k13 (⟨#[108, 105, 110, 107, 112, 97, 116, 104]⟩, h.link) : List (ByteArray × ByteArray))), FR h mx an ax cn cx R y) := Lib.hid (fe_step HL.out hk13 (.inl FE.link))
  clear hA13
  refine hK9.out _ _ (⟨HA13.out.hd.cell 2, trivial⟩) (fun hHeld2 => ?_)
  clear hK9 K9
  try simp only [Act.put, List.setIfInBounds_toArray, List.set_cons_zero, List.set_cons_succ]
  refine wpAnyH_done (by kernel_rfl) ?_ _
  clear HS HL hHeld hHeld1 hHeld2
  obtain ⟨L9, hL9⟩ : ∃ L9, (L ++ List.replicate k13 (⟨#[108, 105, 110, 107, 112, 97, 116, 104]⟩, h.link) : List (ByteArray × ByteArray)) = L9 := ⟨_, rfl⟩
  rw [hL9] at HA13 HL2
  clear hL9
  clear hk13 k13
  have HS := HA13
  have HL := HL2
  clear HA13 HL2
  obtain ⟨L, hL⟩ : ∃ L, L = L9 := ⟨_, rfl⟩
  rw [← hL] at HS HL
  clear hL L9
  go_upto_region 14 with fail
  refine wp_region_held_drew (S := fun w' => w'.cell? ⟨B, 7, none⟩ = some (.string h.un) ∧ True) (by kernel_rfl) (⟨HS.out.drew.hd.cell 7, trivial⟩) (fun hHeld => ?_)
  refine wpAnyH_take (i := 0) (oi := ⟨some 49, .move (.tmp 9), 132, "common.go:425", #[], none⟩) (v := .func (.func 71) #[] #[.pointer (some ⟨B + 6, 0, none⟩), .pointer (some ⟨B + 1, 0, none⟩), .pointer (some ⟨B + 4, 0, none⟩), .pointer (some ⟨B + 5, 0, none⟩), .pointer (some ⟨B + 2, 0, none⟩), .pointer (some ⟨B, 0, none⟩)]) rfl (by kernel_rfl) (by kernel_rfl) (by kernel_rfl) (fun _ _ _ h => h) (Or.inl ⟨by rfl, fun w9 hS9 => ?_⟩) hHeld ?_
  · obtain ⟨g0, _⟩ := hS9
    go_simp
  simp only [Act.put, List.setIfInBounds_toArray, List.set_cons_zero, List.set_cons_succ]
  refine wpAnyH_take (i := 1) (oi := ⟨some 50, .fieldAddr 75 (.tmp 1) 7, 0, "common.go:425", #[], none⟩) (v := .pointer (some ⟨B, 7, none⟩)) rfl (by kernel_rfl) (by kernel_rfl) (by kernel_rfl) (fun _ _ _ h => h) (Or.inl ⟨by rfl, fun w9 hS9 => ?_⟩) hHeld ?_
  · obtain ⟨g0, _⟩ := hS9
    go_simp
  simp only [Act.put, List.setIfInBounds_toArray, List.set_cons_zero, List.set_cons_succ]
  refine wpAnyH_take (i := 2) (oi := ⟨some 51, .load 9 (.tmp 50), 9, "common.go:425", #[⟨1, .data⟩], none⟩) (v := .string h.un) rfl (by kernel_rfl) (by kernel_rfl) (by kernel_rfl) (fun _ _ _ h => h) (Or.inl ⟨by rfl, fun w9 hS9 => ?_⟩) hHeld ?_
  · obtain ⟨g0, _⟩ := hS9
    go_simp
  simp only [Act.put, List.setIfInBounds_toArray, List.set_cons_zero, List.set_cons_succ]
  refine wpAnyH_take (i := 3) (oi := ⟨some 52, .move (.tmp 14), 126, "common.go:425", #[], none⟩) (v := .pointer (some ⟨B + 8, 0, none⟩)) rfl (by kernel_rfl) (by kernel_rfl) (by kernel_rfl) (fun _ _ _ h => h) (Or.inl ⟨by rfl, fun w9 hS9 => ?_⟩) hHeld ?_
  · obtain ⟨g0, _⟩ := hS9
    go_simp
  simp only [Act.put, List.setIfInBounds_toArray, List.set_cons_zero, List.set_cons_succ]
  refine wpAnyH_ready (rs := [4]) (by kernel_rfl) (by simp) ?_
  refine AllReadyH.cons (o := ⟨some 53, .call { callee := .value (.func 88), args := #[.tmp 52], argTypes := #[126] }, 35, "common.go:425", #[⟨3, .data⟩], none⟩) rfl (fun K9 hK9 => ?_) AllReadyH.nil
  go_simp
  refine (fld_userName _ _).mono ?_
  rintro e wV ⟨rfl, hwV⟩
  subst hwV
  refine hK9.out _ _ (hHeld) (fun hHeld1 => ?_)
  clear hK9 K9
  try simp only [Act.put, List.setIfInBounds_toArray, List.set_cons_zero, List.set_cons_succ]
  refine wpAnyH_take (i := 5) (oi := ⟨some 54, .call { callee := .builtin .len, args := #[.tmp 53], argTypes := #[35] }, 3, "common.go:425", #[⟨4, .data⟩], none⟩) (v := .int .i64 32) rfl (by kernel_rfl) (by kernel_rfl) (by kernel_rfl) (fun _ _ _ h => h) (Or.inl ⟨by rfl, fun w9 hS9 => ?_⟩) hHeld1 ?_
  · obtain ⟨g0, _⟩ := hS9
    go_simp
  simp only [Act.put, List.setIfInBounds_toArray, List.set_cons_zero, List.set_cons_succ]
  refine wpAnyH_ready (rs := [6]) (by kernel_rfl) (by simp) ?_
  refine AllReadyH.cons (o := ⟨some 55, .call { callee := .value (.tmp 49), args := #[.tmp 51, .tmp 54, .const (.string { data := #[85, 110, 97, 109, 101] }), .const (.string { data := #[117, 110, 97, 109, 101] })], argTypes := #[9, 3, 9, 9] }, 0, "common.go:425", #[⟨0, .data⟩, ⟨2, .data⟩, ⟨5, .data⟩, ⟨4, .chain⟩], none⟩) rfl (fun K9 hK9 => ?_) AllReadyH.nil
  go_simp
  refine (vStr h.un ⟨#[85, 110, 97, 109, 101]⟩ ⟨#[117, 110, 97, 109, 101]⟩ 32 false false _ HS.out.drew HSZ.out.2.2.1 (by decide) (by decide) (by decide) (by have := HL.out.1; omega) (strLen _ rfl) (strLen _ rfl)).mono ?_
  rintro e w13 ⟨rfl, k13, hk13, hA13⟩
  have HA13 := Lib.hid hA13
  have HL2 : Hid (((L ++ List.replicate k13 (⟨#[117, 110, 97, 109, 101]⟩, h.un) : List (ByteArray × ByteArray))).length ≤ 6 ∧ ∀ y ∈ ((L ++ List.replicate k13 (⟨#[117, 110, 97, 109, 101]⟩, h.un) : List (ByteArray × ByteArray))), FR h mx an ax cn cx R y) := Lib.hid (fe_step HL.out hk13 (.inl FE.un))
  clear hA13
  refine hK9.out _ _ (⟨HA13.out.hd.cell 7, trivial⟩) (fun hHeld2 => ?_)
  clear hK9 K9
  try simp only [Act.put, List.setIfInBounds_toArray, List.set_cons_zero, List.set_cons_succ]
  refine wpAnyH_done (by kernel_rfl) ?_ _
  clear HS HL hHeld hHeld1 hHeld2
  obtain ⟨L9, hL9⟩ : ∃ L9, (L ++ List.replicate k13 (⟨#[117, 110, 97, 109, 101]⟩, h.un) : List (ByteArray × ByteArray)) = L9 := ⟨_, rfl⟩
  rw [hL9] at HA13 HL2
  clear hL9
  clear hk13 k13
  have HS := HA13
  have HL := HL2
  clear HA13 HL2
  obtain ⟨L, hL⟩ : ∃ L, L = L9 := ⟨_, rfl⟩
  rw [← hL] at HS HL
  clear hL L9
  go_upto_region 15 with fail
  refine wp_region_held_drew (S := fun w' => w'.cell? ⟨B, 8, none⟩ = some (.string h.gn) ∧ True) (by kernel_rfl) (⟨HS.out.drew.hd.cell 8, trivial⟩) (fun hHeld => ?_)
  refine wpAnyH_take (i := 0) (oi := ⟨some 56, .move (.tmp 9), 132, "common.go:426", #[], none⟩) (v := .func (.func 71) #[] #[.pointer (some ⟨B + 6, 0, none⟩), .pointer (some ⟨B + 1, 0, none⟩), .pointer (some ⟨B + 4, 0, none⟩), .pointer (some ⟨B + 5, 0, none⟩), .pointer (some ⟨B + 2, 0, none⟩), .pointer (some ⟨B, 0, none⟩)]) rfl (by kernel_rfl) (by kernel_rfl) (by kernel_rfl) (fun _ _ _ h => h) (Or.inl ⟨by rfl, fun w9 hS9 => ?_⟩) hHeld ?_
  · obtain ⟨g0, _⟩ := hS9
    go_simp
  simp only [Act.put, List.setIfInBounds_toArray, List.set_cons_zero, List.set_cons_succ]
  refine wpAnyH_take (i := 1) (oi := ⟨some 57, .fieldAddr 75 (.tmp 1) 8, 0, "common.go:426", #[], none⟩) (v := .pointer (some ⟨B, 8, none⟩)) rfl (by kernel_rfl) (by kernel_rfl) (by kernel_rfl) (fun _ _ _ h => h) (Or.inl ⟨by rfl, fun w9 hS9 => ?_⟩) hHeld ?_
  · obtain ⟨g0, _⟩ := hS9
    go_simp
  simp only [Act.put, List.setIfInBounds_toArray, List.set_cons_zero, List.set_cons_succ]
  refine wpAnyH_take (i := 2) (oi := ⟨some 58, .load 9 (.tmp 57), 9, "common.go:426", #[⟨1, .data⟩], none⟩) (v := .string h.gn) rfl (by kernel_rfl) (by kernel_rfl) (by kernel_rfl) (fun _ _ _ h => h) (Or.inl ⟨by rfl, fun w9 hS9 => ?_⟩) hHeld ?_
  · obtain ⟨g0, _⟩ := hS9
    go_simp
  simp only [Act.put, List.setIfInBounds_toArray, List.set_cons_zero, List.set_cons_succ]
  refine wpAnyH_take (i := 3) (oi := ⟨some 59, .move (.tmp 14), 126, "common.go:426", #[], none⟩) (v := .pointer (some ⟨B + 8, 0, none⟩)) rfl (by kernel_rfl) (by kernel_rfl) (by kernel_rfl) (fun _ _ _ h => h) (Or.inl ⟨by rfl, fun w9 hS9 => ?_⟩) hHeld ?_
  · obtain ⟨g0, _⟩ := hS9
    go_simp
  simp only [Act.put, List.setIfInBounds_toArray, List.set_cons_zero, List.set_cons_succ]
  refine wpAnyH_ready (rs := [4]) (by kernel_rfl) (by simp) ?_
  refine AllReadyH.cons (o := ⟨some 60, .call { callee := .value (.func 89), args := #[.tmp 59], argTypes := #[126] }, 35, "common.go:426", #[⟨3, .data⟩], none⟩) rfl (fun K9 hK9 => ?_) AllReadyH.nil
  go_simp
  refine (fld_groupName _ _).mono ?_
  rintro e wV ⟨rfl, hwV⟩
  subst hwV
  refine hK9.out _ _ (hHeld) (fun hHeld1 => ?_)
  clear hK9 K9
  try simp only [Act.put, List.setIfInBounds_toArray, List.set_cons_zero, List.set_cons_succ]
  refine wpAnyH_take (i := 5) (oi := ⟨some 61, .call { callee := .builtin .len, args := #[.tmp 60], argTypes := #[35] }, 3, "common.go:426", #[⟨4, .data⟩], none⟩) (v := .int .i64 32) rfl (by kernel_rfl) (by kernel_rfl) (by kernel_rfl) (fun _ _ _ h => h) (Or.inl ⟨by rfl, fun w9 hS9 => ?_⟩) hHeld1 ?_
  · obtain ⟨g0, _⟩ := hS9
    go_simp
  simp only [Act.put, List.setIfInBounds_toArray, List.set_cons_zero, List.set_cons_succ]
  refine wpAnyH_ready (rs := [6]) (by kernel_rfl) (by simp) ?_
  refine AllReadyH.cons (o := ⟨some 62, .call { callee := .value (.tmp 56), args := #[.tmp 58, .tmp 61, .const (.string { data := #[71, 110, 97, 109, 101] }), .const (.string { data := #[103, 110, 97, 109, 101] })], argTypes := #[9, 3, 9, 9] }, 0, "common.go:426", #[⟨0, .data⟩, ⟨2, .data⟩, ⟨5, .data⟩, ⟨4, .chain⟩], none⟩) rfl (fun K9 hK9 => ?_) AllReadyH.nil
  go_simp
  refine (vStr h.gn ⟨#[71, 110, 97, 109, 101]⟩ ⟨#[103, 110, 97, 109, 101]⟩ 32 false false _ HS.out.drew HSZ.out.2.2.2 (by decide) (by decide) (by decide) (by have := HL.out.1; omega) (strLen _ rfl) (strLen _ rfl)).mono ?_
  rintro e w13 ⟨rfl, k13, hk13, hA13⟩
  have HA13 := Lib.hid hA13
  have HL2 : Hid (((L ++ List.replicate k13 (⟨#[103, 110, 97, 109, 101]⟩, h.gn) : List (ByteArray × ByteArray))).length ≤ 8 ∧ ∀ y ∈ ((L ++ List.replicate k13 (⟨#[103, 110, 97, 109, 101]⟩, h.gn) : List (ByteArray × ByteArray))), FR h mx an ax cn cx R y) := Lib.hid (fe_step HL.out hk13 (.inl FE.gn))
  clear hA13
  refine hK9.out _ _ (⟨HA13.out.hd.cell 8, trivial⟩) (fun hHeld2 => ?_)
  clear hK9 K9
  try simp only [Act.put, List.setIfInBounds_toArray, List.set_cons_zero, List.set_cons_succ]
  refine wpAnyH_done (by kernel_rfl) ?_ _
  clear HS HL hHeld hHeld1 hHeld2
  obtain ⟨L9, hL9⟩ : ∃ L9, (L ++ List.replicate k13 (⟨#[103, 110, 97, 109, 101]⟩, h.gn) : List (ByteArray × ByteArray)) = L9 := ⟨_, rfl⟩
  rw [hL9] at HA13 HL2
  clear hL9
  clear hk13 k13
  have HS := HA13
  have HL := HL2
  clear HA13 HL2
  obtain ⟨L, hL⟩ : ∃ L, L = L9 := ⟨_, rfl⟩
  rw [← hL] at HS HL
  clear hL L9
  go_upto_region 16 with fail
  refine wp_region_held_drew (S := fun w' => w'.cell? ⟨B, 4, none⟩ = some (.int .i64 h.mode) ∧ True) (by kernel_rfl) (⟨HS.out.drew.hd.cell 4, trivial⟩) (fun hHeld => ?_)
  refine wpAnyH_take (i := 0) (oi := ⟨some 63, .move (.tmp 10), 134, "common.go:427", #[], none⟩) (v := .func (.func 76) #[] #[.pointer (some ⟨B + 6, 0, none⟩), .pointer (some ⟨B + 1, 0, none⟩), .pointer (some ⟨B + 4, 0, none⟩), .pointer (some ⟨B + 5, 0, none⟩), .pointer (some ⟨B + 2, 0, none⟩), .pointer (some ⟨B, 0, none⟩)]) rfl (by kernel_rfl) (by kernel_rfl) (by kernel_rfl) (fun _ _ _ h => h) (Or.inl ⟨by rfl, fun w9 hS9 => ?_⟩) hHeld ?_
  · obtain ⟨g0, _⟩ := hS9
    go_simp
  simp only [Act.put, List.setIfInBounds_toArray, List.set_cons_zero, List.set_cons_succ]
  refine wpAnyH_take (i := 1) (oi := ⟨some 64, .fieldAddr 75 (.tmp 1) 4, 0, "common.go:427", #[], none⟩) (v := .pointer (some ⟨B, 4, none⟩)) rfl (by kernel_rfl) (by kernel_rfl) (by kernel_rfl) (fun _ _ _ h => h) (Or.inl ⟨by rfl, fun w9 hS9 => ?_⟩) hHeld ?_
  · obtain ⟨g0, _⟩ := hS9
    go_simp
  simp only [Act.put, List.setIfInBounds_toArray, List.set_cons_zero, List.set_cons_succ]
  refine wpAnyH_take (i := 2) (oi := ⟨some 65, .load 2 (.tmp 64), 2, "common.go:427", #[⟨1, .data⟩], none⟩) (v := .int .i64 h.mode) rfl (by kernel_rfl) (by kernel_rfl) (by kernel_rfl) (fun _ _ _ h => h) (Or.inl ⟨by rfl, fun w9 hS9 => ?_⟩) hHeld ?_
  · obtain ⟨g0, _⟩ := hS9
    go_simp
  simp only [Act.put, List.setIfInBounds_toArray, List.set_cons_zero, List.set_cons_succ]
  refine wpAnyH_take (i := 3) (oi := ⟨some 66, .move (.tmp 13), 122, "common.go:427", #[], none⟩) (v := .pointer (some ⟨B + 8, 0, none⟩)) rfl (by kernel_rfl) (by kernel_rfl) (by kernel_rfl) (fun _ _ _ h => h) (Or.inl ⟨by rfl, fun w9 hS9 => ?_⟩) hHeld ?_
  · obtain ⟨g0, _⟩ := hS9
    go_simp
  simp only [Act.put, List.setIfInBounds_toArray, List.set_cons_zero, List.set_cons_succ]
  refine wpAnyH_ready (rs := [4]) (by kernel_rfl) (by simp) ?_
  refine AllReadyH.cons (o := ⟨some 67, .call { callee := .value (.func 90), args := #[.tmp 66], argTypes := #[122] }, 35, "common.go:427", #[⟨3, .data⟩], none⟩) rfl (fun K9 hK9 => ?_) AllReadyH.nil
  go_simp
  refine (fld_mode _ _).mono ?_
  rintro e wV ⟨rfl, hwV⟩
  subst hwV
  refine hK9.out _ _ (hHeld) (fun hHeld1 => ?_)
  clear hK9 K9
  try simp only [Act.put, List.setIfInBounds_toArray, List.set_cons_zero, List.set_cons_succ]
  refine wpAnyH_take (i := 5) (oi := ⟨some 68, .call { callee := .builtin .len, args := #[.tmp 67], argTypes := #[35] }, 3, "common.go:427", #[⟨4, .data⟩], none⟩) (v := .int .i64 8) rfl (by kernel_rfl) (by kernel_rfl) (by kernel_rfl) (fun _ _ _ h => h) (Or.inl ⟨by rfl, fun w9 hS9 => ?_⟩) hHeld1 ?_
  · obtain ⟨g0, _⟩ := hS9
    go_simp
  simp only [Act.put, List.setIfInBounds_toArray, List.set_cons_zero, List.set_cons_succ]
  refine wpAnyH_ready (rs := [6]) (by kernel_rfl) (by simp) ?_
  refine AllReadyH.cons (o := ⟨some 69, .call { callee := .value (.tmp 63), args := #[.tmp 65, .tmp 68, .const (.string { data := #[77, 111, 100, 101] }), .const (.string { data := #[] })], argTypes := #[2, 3, 9, 9] }, 0, "common.go:427", #[⟨0, .data⟩, ⟨2, .data⟩, ⟨5, .data⟩, ⟨4, .chain⟩], none⟩) rfl (fun K9 hK9 => ?_) AllReadyH.nil
  go_simp
  refine (vNum h.mode 8 6 ⟨#[77, 111, 100, 101]⟩ ⟨#[]⟩ true _ HS.out.drew (by decide) (by decide) HOK.out.mode (by decide) (by decide) (by have := HL.out.1; omega) keyNone.1 keyNone.2 HT.out).mono ?_
  rintro e w13 ⟨rfl, k13, hk13, hz13, hA13⟩
  have HA13 := Lib.hid hA13
  have HL2 : Hid (((L ++ List.replicate k13 (⟨#[]⟩, mkS (intL h.mode)) : List (ByteArray × ByteArray))).length ≤ 10 ∧ ∀ y ∈ ((L ++ List.replicate k13 (⟨#[]⟩, mkS (intL h.mode)) : List (ByteArray × ByteArray))), FR h mx an ax cn cx R y) := Lib.hid (fe_stepz HL.out hk13 ((hz13 rfl).imp id (fun h9 => .inr ⟨mem_of_at1 h9.1 h9.2, basNone.1, basNone.2⟩)))
  clear hA13
  refine hK9.out _ _ (⟨HA13.out.hd.cell 4, trivial⟩) (fun hHeld2 => ?_)
  clear hK9 K9
  try simp only [Act.put, List.setIfInBounds_toArray, List.set_cons_zero, List.set_cons_succ]
  refine wpAnyH_done (by kernel_rfl) ?_ _
  clear HS HL hHeld hHeld1 hHeld2
  obtain ⟨L9, hL9⟩ : ∃ L9, (L ++ List.replicate k13 (⟨#[]⟩, mkS (intL h.mode)) : List (ByteArray × ByteArray)) = L9 := ⟨_, rfl⟩
  rw [hL9] at HA13 HL2
  clear hL9
  clear hz13 hk13 k13
  have HS := HA13
  have HL := HL2
  clear HA13 HL2
  obtain ⟨L, hL⟩ : ∃ L, L = L9 := ⟨_, rfl⟩
  rw [← hL] at HS HL
  clear hL L9
  go_upto_region 17 with fail
  refine wp_region_held_drew (S := fun w' => w'.cell? ⟨B, 5, none⟩ = some (.int .i64 h.uid) ∧ True) (by kernel_rfl) (⟨HS.out.drew.hd.cell 5, trivial⟩) (fun hHeld => ?_)
  refine wpAnyH_take (i := 0) (oi := ⟨some 70, .move (.tmp 10), 134, "common.go:428", #[], none⟩) (v := .func (.func 76) #[] #[.pointer (some ⟨B + 6, 0, none⟩), .pointer (some ⟨B + 1, 0, none⟩), .pointer (some ⟨B + 4, 0, none⟩), .pointer (some ⟨B + 5, 0, none⟩), .pointer (some ⟨B + 2, 0, none⟩), .pointer (some ⟨B, 0, none⟩)]) rfl (by kernel_rfl) (by kernel_rfl) (by kernel_rfl) (fun _ _ _ h => h) (Or.inl ⟨by rfl, fun w9 hS9 => ?_⟩) hHeld ?_
  · obtain ⟨g0, _⟩ := hS9
    go_simp
  simp only [Act.put, List.setIfInBounds_toArray, List.set_cons_zero, List.set_cons_succ]
  refine wpAnyH_take (i := 1) (oi := ⟨some 71, .fieldAddr 75 (.tmp 1) 5, 0, "common.go:428", #[], none⟩) (v := .pointer (some ⟨B, 5, none⟩)) rfl (by kernel_rfl) (by kernel_rfl) (by kernel_rfl) (fun _ _ _ h => h) (Or.inl ⟨by rfl, fun w9 hS9 => ?_⟩) hHeld ?_
  · obtain ⟨g0, _⟩ := hS9
    go_simp
  simp only [Act.put, List.setIfInBounds_toArray, List.set_cons_zero, List.set_cons_succ]
  refine wpAnyH_take (i := 2) (oi := ⟨some 72, .load 3 (.tmp 71), 3, "common.go:428", #[⟨1, .data⟩], none⟩) (v := .int .i64 h.uid) rfl (by kernel_rfl) (by kernel_rfl) (by kernel_rfl) (fun _ _ _ h => h) (Or.inl ⟨by rfl, fun w9 hS9 => ?_⟩) hHeld ?_
  · obtain ⟨g0, _⟩ := hS9
    go_simp
  simp only [Act.put, List.setIfInBounds_toArray, List.set_cons_zero, List.set_cons_succ]
  refine wpAnyH_take (i := 3) (oi := ⟨some 73, .move (.tmp 13), 122, "common.go:428", #[], none⟩) (v := .pointer (some ⟨B + 8, 0, none⟩)) rfl (by kernel_rfl) (by kernel_rfl) (by kernel_rfl) (fun _ _ _ h => h) (Or.inl ⟨by rfl, fun w9 hS9 => ?_⟩) hHeld ?_
  · obtain ⟨g0, _⟩ := hS9
    go_simp
  simp only [Act.put, List.setIfInBounds_toArray, List.set_cons_zero, List.set_cons_succ]
  refine wpAnyH_ready (rs := [4]) (by kernel_rfl) (by simp) ?_
  refine AllReadyH.cons (o := ⟨some 74, .call { callee := .value (.func 91), args := #[.tmp 73], argTypes := #[122] }, 35, "common.go:428", #[⟨3, .data⟩], none⟩) rfl (fun K9 hK9 => ?_) AllReadyH.nil
  go_simp
  refine (fld_uid _ _).mono ?_
  rintro e wV ⟨rfl, hwV⟩
  subst hwV
  refine hK9.out _ _ (hHeld) (fun hHeld1 => ?_)
  clear hK9 K9
  try simp only [Act.put, List.setIfInBounds_toArray, List.set_cons_zero, List.set_cons_succ]
  refine wpAnyH_take (i := 5) (oi := ⟨some 75, .call { callee := .builtin .len, args := #[.tmp 74], argTypes := #[35] }, 3, "common.go:428", #[⟨4, .data⟩], none⟩) (v := .int .i64 8) rfl (by kernel_rfl) (by kernel_rfl) (by kernel_rfl) (fun _ _ _ h => h) (Or.inl ⟨by rfl, fun w9 hS9 => ?_⟩) hHeld1 ?_
  · obtain ⟨g0, _⟩ := hS9
    go_simp
  simp only [Act.put, List.setIfInBounds_toArray, List.set_cons_zero, List.set_cons_succ]
  refine wpAnyH_ready (rs := [6]) (by kernel_rfl) (by simp) ?_
  refine AllReadyH.cons (o := ⟨some 76, .call { callee := .value (.tmp 70), args := #[.tmp 72, .tmp 75, .const (.string { data := #[85, 105, 100] }), .const (.string { data := #[117, 105, 100] })], argTypes := #[2, 3, 9, 9] }, 0, "common.go:428", #[⟨0, .data⟩, ⟨2, .data⟩, ⟨5, .data⟩, ⟨4, .chain⟩], none⟩) rfl (fun K9 hK9 => ?_) AllReadyH.nil
  go_simp
  refine (vNum h.uid 8 6 ⟨#[85, 105, 100]⟩ ⟨#[117, 105, 100]⟩ false _ HS.out.drew (by decide) (by decide) HOK.out.uid (by decide) (by decide) (by have := HL.out.1; omega) (keySome (k := kUid) rfl).1 (keySome (k := kUid) rfl).2 HT.out).mono ?_
  rintro e w13 ⟨rfl, k13, hk13, hz13, hA13⟩
  have HA13 := Lib.hid hA13
  have HL2 : Hid (((L ++ List.replicate k13 (⟨#[117, 105, 100]⟩, mkS (intL h.uid)) : List (ByteArray × ByteArray))).length ≤ 12 ∧ ∀ y ∈ ((L ++ List.replicate k13 (⟨#[117, 105, 100]⟩, mkS (intL h.uid)) : List (ByteArray × ByteArray))), FR h mx an ax cn cx R y) := Lib.hid (fe_step HL.out hk13 (.inl FE.uid))
  clear hA13
  refine hK9.out _ _ (⟨HA13.out.hd.cell 5, trivial⟩) (fun hHeld2 => ?_)
  clear hK9 K9
  try simp only [Act.put, List.setIfInBounds_toArray, List.set_cons_zero, List.set_cons_succ]
  refine wpAnyH_done (by kernel_rfl) ?_ _
  clear HS HL hHeld hHeld1 hHeld2
  obtain ⟨L9, hL9⟩ : ∃ L9, (L ++ List.replicate k13 (⟨#[117, 105, 100]⟩, mkS (intL h.uid)) : List (ByteArray × ByteArray)) = L9 := ⟨_, rfl⟩
  rw [hL9] at HA13 HL2
  clear hL9
  clear hz13 hk13 k13
  have HS := HA13
  have HL := HL2
  clear HA13 HL2
  obtain ⟨L, hL⟩ : ∃ L, L = L9 := ⟨_, rfl⟩
  rw [← hL] at HS HL
  clear hL L9
  go_upto_region 18 with fail
  refine wp_region_held_drew (S := fun w' => w'.cell? ⟨B, 6, none⟩ = some (.int .i64 h.gid) ∧ True) (by kernel_rfl) (⟨HS.out.drew.hd.cell 6, trivial⟩) (fun hHeld => ?_)
  refine wpAnyH_take (i := 0) (oi := ⟨some 77, .move (.tmp 10), 134, "common.go:429", #[], none⟩) (v := .func (.func 76) #[] #[.pointer (some ⟨B + 6, 0, none⟩), .pointer (some ⟨B + 1, 0, none⟩), .pointer (some ⟨B + 4, 0, none⟩), .pointer (some ⟨B + 5, 0, none⟩), .pointer (some ⟨B + 2, 0, none⟩), .pointer (some ⟨B, 0, none⟩)]) rfl (by kernel_rfl) (by kernel_rfl) (by kernel_rfl) (fun _ _ _ h => h) (Or.inl ⟨by rfl, fun w9 hS9 => ?_⟩) hHeld ?_
  · obtain ⟨g0, _⟩ := hS9
    go_simp
  simp only [Act.put, List.setIfInBounds_toArray, List.set_cons_zero, List.set_cons_succ]
  refine wpAnyH_take (i := 1) (oi := ⟨some 78, .fieldAddr 75 (.tmp 1) 6, 0, "common.go:429", #[], none⟩) (v := .pointer (some ⟨B, 6, none⟩)) rfl (by kernel_rfl) (by kernel_rfl) (by kernel_rfl) (fun _ _ _ h => h) (Or.inl ⟨by rfl, fun w9 hS9 => ?_⟩) hHeld ?_
  · obtain ⟨g0, _⟩ := hS9
    go_simp
  simp only [Act.put, List.setIfInBounds_toArray, List.set_cons_zero, List.set_cons_succ]
  refine wpAnyH_take (i := 2) (oi := ⟨some 79, .load 3 (.tmp 78), 3, "common.go:429", #[⟨1, .data⟩], none⟩) (v := .int .i64 h.gid) rfl (by kernel_rfl) (by kernel_rfl) (by kernel_rfl) (fun _ _ _ h => h) (Or.inl ⟨by rfl, fun w9 hS9 => ?_⟩) hHeld ?_
  · obtain ⟨g0, _⟩ := hS9
    go_simp
  simp only [Act.put, List.setIfInBounds_toArray, List.set_cons_zero, List.set_cons_succ]
  refine wpAnyH_take (i := 3) (oi := ⟨some 80, .move (.tmp 13), 122, "common.go:429", #[], none⟩) (v := .pointer (some ⟨B + 8, 0, none⟩)) rfl (by kernel_rfl) (by kernel_rfl) (by kernel_rfl) (fun _ _ _ h => h) (Or.inl ⟨by rfl, fun w9 hS9 => ?_⟩) hHeld ?_
  · obtain ⟨g0, _⟩ := hS9
    go_simp
  simp only [Act.put, List.setIfInBounds_toArray, List.set_cons_zero, List.set_cons_succ]
  refine wpAnyH_ready (rs := [4]) (by kernel_rfl) (by simp) ?_
  refine AllReadyH.cons (o := ⟨some 81, .call { callee := .value (.func 92), args := #[.tmp 80], argTypes := #[122] }, 35, "common.go:429", #[⟨3, .data⟩], none⟩) rfl (fun K9 hK9 => ?_) AllReadyH.nil
  go_simp
  refine (fld_gid _ _).mono ?_
  rintro e wV ⟨rfl, hwV⟩
  subst hwV
  refine hK9.out _ _ (hHeld) (fun hHeld1 => ?_)
  clear hK9 K9
  try simp only [Act.put, List.setIfInBounds_toArray, List.set_cons_zero, List.set_cons_succ]
  refine wpAnyH_take (i := 5) (oi := ⟨some 82, .call { callee := .builtin .len, args := #[.tmp 81], argTypes := #[35] }, 3, "common.go:429", #[⟨4, .data⟩], none⟩) (v := .int .i64 8) rfl (by kernel_rfl) (by kernel_rfl) (by kernel_rfl) (fun _ _ _ h => h) (Or.inl ⟨by rfl, fun w9 hS9 => ?_⟩) hHeld1 ?_
  · obtain ⟨g0, _⟩ := hS9
    go_simp
  simp only [Act.put, List.setIfInBounds_toArray, List.set_cons_zero, List.set_cons_succ]
  refine wpAnyH_ready (rs := [6]) (by kernel_rfl) (by simp) ?_
  refine AllReadyH.cons (o := ⟨some 83, .call { callee := .value (.tmp 77), args := #[.tmp 79, .tmp 82, .const (.string { data := #[71, 105, 100] }), .const (.string { data := #[103, 105, 100] })], argTypes := #[2, 3, 9, 9] }, 0, "common.go:429", #[⟨0, .data⟩, ⟨2, .data⟩, ⟨5, .data⟩, ⟨4, .chain⟩], none⟩) rfl (fun K9 hK9 => ?_) AllReadyH.nil
  go_simp
  refine (vNum h.gid 8 6 ⟨#[71, 105, 100]⟩ ⟨#[103, 105, 100]⟩ false _ HS.out.drew (by decide) (by decide) HOK.out.gid (by decide) (by decide) (by have := HL.out.1; omega) (keySome (k := kGid) rfl).1 (keySome (k := kGid) rfl).2 HT.out).mono ?_
  rintro e w13 ⟨rfl, k13, hk13, hz13, hA13⟩
  have HA13 := Lib.hid hA13
  have HL2 : Hid (((L ++ List.replicate k13 (⟨#[103, 105, 100]⟩, mkS (intL h.gid)) : List (ByteArray × ByteArray))).length ≤ 14 ∧ ∀ y ∈ ((L ++ List.replicate k13 (⟨#[103, 105, 100]⟩, mkS (intL h.gid)) : List (ByteArray × ByteArray))), FR h mx an ax cn cx R y) := Lib.hid (fe_step HL.out hk13 (.inl FE.gid))
  clear hA13
  refine hK9.out _ _ (⟨HA13.out.hd.cell 6, trivial⟩) (fun hHeld2 => ?_)
  clear hK9 K9
  try simp only [Act.put, List.setIfInBounds_toArray, List.set_cons_zero, List.set_cons_succ]
  refine wpAnyH_done (by kernel_rfl) ?_ _
  clear HS HL hHeld hHeld1 hHeld2
  obtain ⟨L9, hL9⟩ : ∃ L9, (L ++ List.replicate k13 (⟨#[103, 105, 100]⟩, mkS (intL h.gid)) : List (ByteArray × ByteArray)) = L9 := ⟨_, rfl⟩
  rw [hL9] at HA13 HL2
  clear hL9
  clear hz13 hk13 k13
  have HS := HA13
  have HL := HL2
  clear HA13 HL2
  obtain ⟨L, hL⟩ : ∃ L, L = L9 := ⟨_, rfl⟩
  rw [← hL] at HS HL
  clear hL L9
  go_upto_region 19 with fail
  refine wp_region_held_drew (S := fun w' => w'.cell? ⟨B, 3, none⟩ = some (.int .i64 h.size) ∧ True) (by kernel_rfl) (⟨HS.out.drew.hd.cell 3, trivial⟩) (fun hHeld => ?_)
  refine wpAnyH_take (i := 0) (oi := ⟨some 84, .move (.tmp 10), 134, "common.go:430", #[], none⟩) (v := .func (.func 76) #[] #[.pointer (some ⟨B + 6, 0, none⟩), .pointer (some ⟨B + 1, 0, none⟩), .pointer (some ⟨B + 4, 0, none⟩), .pointer (some ⟨B + 5, 0, none⟩), .pointer (some ⟨B + 2, 0, none⟩), .pointer (some ⟨B, 0, none⟩)]) rfl (by kernel_rfl) (by kernel_rfl) (by kernel_rfl) (fun _ _ _ h => h) (Or.inl ⟨by rfl, fun w9 hS9 => ?_⟩) hHeld ?_
  · obtain ⟨g0, _⟩ := hS9
    go_simp
  simp only [Act.put, List.setIfInBounds_toArray, List.set_cons_zero, List.set_cons_succ]
  refine wpAnyH_take (i := 1) (oi := ⟨some 85, .fieldAddr 75 (.tmp 1) 3, 0, "common.go:430", #[], none⟩) (v := .pointer (some ⟨B, 3, none⟩)) rfl (by kernel_rfl) (by kernel_rfl) (by kernel_rfl) (fun _ _ _ h => h) (Or.inl ⟨by rfl, fun w9 hS9 => ?_⟩) hHeld ?_
  · obtain ⟨g0, _⟩ := hS9
    go_simp
  simp only [Act.put, List.setIfInBounds_toArray, List.set_cons_zero, List.set_cons_succ]
  refine wpAnyH_take (i := 2) (oi := ⟨some 86, .load 2 (.tmp 85), 2, "common.go:430", #[⟨1, .data⟩], none⟩) (v := .int .i64 h.size) rfl (by kernel_rfl) (by kernel_rfl) (by kernel_rfl) (fun _ _ _ h => h) (Or.inl ⟨by rfl, fun w9 hS9 => ?_⟩) hHeld ?_
  · obtain ⟨g0, _⟩ := hS9
    go_simp
  simp only [Act.put, List.setIfInBounds_toArray, List.set_cons_zero, List.set_cons_succ]
  refine wpAnyH_take (i := 3) (oi := ⟨some 87, .move (.tmp 13), 122, "common.go:430", #[], none⟩) (v := .pointer (some ⟨B + 8, 0, none⟩)) rfl (by kernel_rfl) (by kernel_rfl) (by kernel_rfl) (fun _ _ _ h => h) (Or.inl ⟨by rfl, fun w9 hS9 => ?_⟩) hHeld ?_
  · obtain ⟨g0, _⟩ := hS9
    go_simp
  simp only [Act.put, List.setIfInBounds_toArray, List.set_cons_zero, List.set_cons_succ]
  refine wpAnyH_ready (rs := [4]) (by kernel_rfl) (by simp) ?_
  refine AllReadyH.cons (o := ⟨some 88, .call { callee := .value (.func 93), args := #[.tmp 87], argTypes := #[122] }, 35, "common.go:430", #[⟨3, .data⟩], none⟩) rfl (fun K9 hK9 => ?_) AllReadyH.nil
  go_simp
  refine (fld_size _ _).mono ?_
  rintro e wV ⟨rfl, hwV⟩
  subst hwV
  refine hK9.out _ _ (hHeld) (fun hHeld1 => ?_)
  clear hK9 K9
  try simp only [Act.put, List.setIfInBounds_toArray, List.set_cons_zero, List.set_cons_succ]
  refine wpAnyH_take (i := 5) (oi := ⟨some 89, .call { callee := .builtin .len, args := #[.tmp 88], argTypes := #[35] }, 3, "common.go:430", #[⟨4, .data⟩], none⟩) (v := .int .i64 12) rfl (by kernel_rfl) (by kernel_rfl) (by kernel_rfl) (fun _ _ _ h => h) (Or.inl ⟨by rfl, fun w9 hS9 => ?_⟩) hHeld1 ?_
  · obtain ⟨g0, _⟩ := hS9
    go_simp
  simp only [Act.put, List.setIfInBounds_toArray, List.set_cons_zero, List.set_cons_succ]
  refine wpAnyH_ready (rs := [6]) (by kernel_rfl) (by simp) ?_
  refine AllReadyH.cons (o := ⟨some 90, .call { callee := .value (.tmp 84), args := #[.tmp 86, .tmp 89, .const (.string { data := #[83, 105, 122, 101] }), .const (.string { data := #[115, 105, 122, 101] })], argTypes := #[2, 3, 9, 9] }, 0, "common.go:430", #[⟨0, .data⟩, ⟨2, .data⟩, ⟨5, .data⟩, ⟨4, .chain⟩], none⟩) rfl (fun K9 hK9 => ?_) AllReadyH.nil
  go_simp
  refine (vNum h.size 12 10 ⟨#[83, 105, 122, 101]⟩ ⟨#[115, 105, 122, 101]⟩ false _ HS.out.drew (by decide) (by decide) HOK.out.size (by decide) (by decide) (by have := HL.out.1; omega) (keySome (k := kSize) rfl).1 (keySome (k := kSize) rfl).2 HT.out).mono ?_
  rintro e w13 ⟨rfl, k13, hk13, hz13, hA13⟩
  have HA13 := Lib.hid hA13
  have HL2 : Hid (((L ++ List.replicate k13 (⟨#[115, 105, 122, 101]⟩, mkS (intL h.size)) : List (ByteArray × ByteArray))).length ≤ 16 ∧ ∀ y ∈ ((L ++ List.replicate k13 (⟨#[115, 105, 122, 101]⟩, mkS (intL h.size)) : List (ByteArray × ByteArray))), FR h mx an ax cn cx R y) := Lib.hid (fe_step HL.out hk13 (.inl FE.size))
  clear hA13
  refine hK9.out _ _ (⟨HA13.out.hd.cell 3, trivial⟩) (fun hHeld2 => ?_)
  clear hK9 K9
  try simp only [Act.put, List.setIfInBounds_toArray, List.set_cons_zero, List.set_cons_succ]
  refine wpAnyH_done (by kernel_rfl) ?_ _
  clear HS HL hHeld hHeld1 hHeld2
  obtain ⟨L9, hL9⟩ : ∃ L9, (L ++ List.replicate k13 (⟨#[115, 105, 122, 101]⟩, mkS (intL h.size)) : List (ByteArray × ByteArray)) = L9 := ⟨_, rfl⟩
  rw [hL9] at HA13 HL2
  clear hL9
  clear hz13 hk13 k13
  have HS := HA13
  have HL := HL2
  clear HA13 HL2
  obtain ⟨L, hL⟩ : ∃ L, L = L9 := ⟨_, rfl⟩
  rw [← hL] at HS HL
  clear hL L9
  go_upto_region 20 with fail
  refine wp_region_held_drew (S := fun w' => w'.cell? ⟨B, 15, none⟩ = some (.int .i64 h.maj) ∧ True) (by kernel_rfl) (⟨HS.out.drew.hd.cell 15, trivial⟩) (fun hHeld => ?_)
  refine wpAnyH_take (i := 0) (oi := ⟨some 91, .move (.tmp 10), 134, "common.go:431", #[], none⟩) (v := .func (.func 76) #[] #[.pointer (some ⟨B + 6, 0, none⟩), .pointer (some ⟨B + 1, 0, none⟩), .pointer (some ⟨B + 4, 0, none⟩), .pointer (some ⟨B + 5, 0, none⟩), .pointer (some ⟨B + 2, 0, none⟩), .pointer (some ⟨B, 0, none⟩)]) rfl (by kernel_rfl) (by kernel_rfl) (by kernel_rfl) (fun _ _ _ h => h) (Or.inl ⟨by rfl, fun w9 hS9 => ?_⟩) hHeld ?_
  · obtain ⟨g0, _⟩ := hS9
    go_simp
  simp only [Act.put, List.setIfInBounds_toArray, List.set_cons_zero, List.set_cons_succ]
  refine wpAnyH_take (i := 1) (oi := ⟨some 92, .fieldAddr 75 (.tmp 1) 12, 0, "common.go:431", #[], none⟩) (v := .pointer (some ⟨B, 15, none⟩)) rfl (by kernel_rfl) (by kernel_rfl) (by kernel_rfl) (fun _ _ _ h => h) (Or.inl ⟨by rfl, fun w9 hS9 => ?_⟩) hHeld ?_
  · obtain ⟨g0, _⟩ := hS9
    go_simp
  simp only [Act.put, List.setIfInBounds_toArray, List.set_cons_zero, List.set_cons_succ]
  refine wpAnyH_take (i := 2) (oi := ⟨some 93, .load 2 (.tmp 92), 2, "common.go:431", #[⟨1, .data⟩], none⟩) (v := .int .i64 h.maj) rfl (by kernel_rfl) (by kernel_rfl) (by kernel_rfl) (fun _ _ _ h => h) (Or.inl ⟨by rfl, fun w9 hS9 => ?_⟩) hHeld ?_
  · obtain ⟨g0, _⟩ := hS9
    go_simp
  simp only [Act.put, List.setIfInBounds_toArray, List.set_cons_zero, List.set_cons_succ]
  refine wpAnyH_take (i := 3) (oi := ⟨some 94, .move (.tmp 14), 126, "common.go:431", #[], none⟩) (v := .pointer (some ⟨B + 8, 0, none⟩)) rfl (by kernel_rfl) (by kernel_rfl) (by kernel_rfl) (fun _ _ _ h => h) (Or.inl ⟨by rfl, fun w9 hS9 => ?_⟩) hHeld ?_
  · obtain ⟨g0, _⟩ := hS9
    go_simp
  simp only [Act.put, List.setIfInBounds_toArray, List.set_cons_zero, List.set_cons_succ]
  refine wpAnyH_ready (rs := [4]) (by kernel_rfl) (by simp) ?_
  refine AllReadyH.cons (o := ⟨some 95, .call { callee := .value (.func 94), args := #[.tmp 94], argTypes := #[126] }, 35, "common.go:431", #[⟨3, .data⟩], none⟩) rfl (fun K9 hK9 => ?_) AllReadyH.nil
  go_simp
  refine (fld_devMajor _ _).mono ?_
  rintro e wV ⟨rfl, hwV⟩
  subst hwV
  refine hK9.out _ _ (hHeld) (fun hHeld1 => ?_)
  clear hK9 K9
  try simp only [Act.put, List.setIfInBounds_toArray, List.set_cons_zero, List.set_cons_succ]
  refine wpAnyH_take (i := 5) (oi := ⟨some 96, .call { callee := .builtin .len, args := #[.tmp 95], argTypes := #[35] }, 3, "common.go:431", #[⟨4, .data⟩], none⟩) (v := .int .i64 8) rfl (by kernel_rfl) (by kernel_rfl) (by kernel_rfl) (fun _ _ _ h => h) (Or.inl ⟨by rfl, fun w9 hS9 => ?_⟩) hHeld1 ?_
  · obtain ⟨g0, _⟩ := hS9
    go_simp
  simp only [Act.put, List.setIfInBounds_toArray, List.set_cons_zero, List.set_cons_succ]
  refine wpAnyH_ready (rs := [6]) (by kernel_rfl) (by simp) ?_
  refine AllReadyH.cons (o := ⟨some 97, .call { callee := .value (.tmp 91), args := #[.tmp 93, .tmp 96, .const (.string { data := #[68, 101, 118, 109, 97, 106, 111, 114] }), .const (.string { data := #[] })], argTypes := #[2, 3, 9, 9] }, 0, "common.go:431", #[⟨0, .data⟩, ⟨2, .data⟩, ⟨5, .data⟩, ⟨4, .chain⟩], none⟩) rfl (fun K9 hK9 => ?_) AllReadyH.nil
  go_simp
  refine (vNum h.maj 8 6 ⟨#[68, 101, 118, 109, 97, 106, 111, 114]⟩ ⟨#[]⟩ true _ HS.out.drew (by decide) (by decide) HOK.out.maj (by decide) (by decide) (by have := HL.out.1; omega) keyNone.1 keyNone.2 HT.out).mono ?_
  rintro e w13 ⟨rfl, k13, hk13, hz13, hA13⟩
  have HA13 := Lib.hid hA13
  have HL2 : Hid (((L ++ List.replicate k13 (⟨#[]⟩, mkS (intL h.maj)) : List (ByteArray × ByteArray))).length ≤ 18 ∧ ∀ y ∈ ((L ++ List.replicate k13 (⟨#[]⟩, mkS (intL h.maj)) : List (ByteArray × ByteArray))), FR h mx an ax cn cx R y) := Lib.hid (fe_stepz HL.out hk13 ((hz13 rfl).imp id (fun h9 => .inr ⟨mem_of_at1 h9.1 h9.2, basNone.1, basNone.2⟩)))
  clear hA13
  refine hK9.out _ _ (⟨HA13.out.hd.cell 15, trivial⟩) (fun hHeld2 => ?_)
  clear hK9 K9
  try simp only [Act.put, List.setIfInBounds_toArray, List.set_cons_zero, List.set_cons_succ]
  refine wpAnyH_done (by kernel_rfl) ?_ _
  clear HS HL hHeld hHeld1 hHeld2
  obtain ⟨L9, hL9⟩ : ∃ L9, (L ++ List.replicate k13 (⟨#[]⟩, mkS (intL h.maj)) : List (ByteArray × ByteArray)) = L9 := ⟨_, rfl⟩
  rw [hL9] at HA13 HL2
  clear hL9
  clear hz13 hk13 k13
  have HS := HA13
  have HL := HL2
  clear HA13 HL2
  obtain ⟨L, hL⟩ : ∃ L, L = L9 := ⟨_, rfl⟩
  rw [← hL] at HS HL
  clear hL L9
  go_upto_region 21 with fail
  refine wp_region_held_drew (S := fun w' => w'.cell? ⟨B, 16, none⟩ = some (.int .i64 h.min) ∧ True) (by kernel_rfl) (⟨HS.out.drew.hd.cell 16, trivial⟩) (fun hHeld => ?_)
  refine wpAnyH_take (i := 0) (oi := ⟨some 98, .move (.tmp 10), 134, "common.go:432", #[], none⟩) (v := .func (.func 76) #[] #[.pointer (some ⟨B + 6, 0, none⟩), .pointer (some ⟨B + 1, 0, none⟩), .pointer (some ⟨B + 4, 0, none⟩), .pointer (some ⟨B + 5, 0, none⟩), .pointer (some ⟨B + 2, 0, none⟩), .pointer (some ⟨B, 0, none⟩)]) rfl (by kernel_rfl) (by kernel_rfl) (by kernel_rfl) (fun _ _ _ h => h) (Or.inl ⟨by rfl, fun w9 hS9 => ?_⟩) hHeld ?_
  · obtain ⟨g0, _⟩ := hS9
    go_simp
  simp only [Act.put, List.setIfInBounds_toArray, List.set_cons_zero, List.set_cons_succ]
  refine wpAnyH_take (i := 1) (oi := ⟨some 99, .fieldAddr 75 (.tmp 1) 13, 0, "common.go:432", #[], none⟩) (v := .pointer (some ⟨B, 16, none⟩)) rfl (by kernel_rfl) (by kernel_rfl) (by kernel_rfl) (fun _ _ _ h => h) (Or.inl ⟨by rfl, fun w9 hS9 => ?_⟩) hHeld ?_
  · obtain ⟨g0, _⟩ := hS9
    go_simp
  simp only [Act.put, List.setIfInBounds_toArray, List.set_cons_zero, List.set_cons_succ]
  refine wpAnyH_take (i := 2) (oi := ⟨some 100, .load 2 (.tmp 99), 2, "common.go:432", #[⟨1, .data⟩], none⟩) (v := .int .i64 h.min) rfl (by kernel_rfl) (by kernel_rfl) (by kernel_rfl) (fun _ _ _ h => h) (Or.inl ⟨by rfl, fun w9 hS9 => ?_⟩) hHeld ?_
  · obtain ⟨g0, _⟩ := hS9
    go_simp
  simp only [Act.put, List.setIfInBounds_toArray, List.set_cons_zero, List.set_cons_succ]
  refine wpAnyH_take (i := 3) (oi := ⟨some 101, .move (.tmp 14), 126, "common.go:432", #[], none⟩) (v := .pointer (some ⟨B + 8, 0, none⟩)) rfl (by kernel_rfl) (by kernel_rfl) (by kernel_rfl) (fun _ _ _ h => h) (Or.inl ⟨by rfl, fun w9 hS9 => ?_⟩) hHeld ?_
  · obtain ⟨g0, _⟩ := hS9
    go_simp
  simp only [Act.put, List.setIfInBounds_toArray, List.set_cons_zero, List.set_cons_succ]
  refine wpAnyH_ready (rs := [4]) (by kernel_rfl) (by simp) ?_
  refine AllReadyH.cons (o := ⟨some 102, .call { callee := .value (.func 95), args := #[.tmp 101], argTypes := #[126] }, 35, "common.go:432", #[⟨3, .data⟩], none⟩) rfl (fun K9 hK9 => ?_) AllReadyH.nil
  go_simp
  refine (fld_devMinor _ _).mono ?_
  rintro e wV ⟨rfl, hwV⟩
  subst hwV
  refine hK9.out _ _ (hHeld) (fun hHeld1 => ?_)
  clear hK9 K9
  try simp only [Act.put, List.setIfInBounds_toArray, List.set_cons_zero, List.set_cons_succ]
  refine wpAnyH_take (i := 5) (oi := ⟨some 103, .call { callee := .builtin .len, args := #[.tmp 102], argTypes := #[35] }, 3, "common.go:432", #[⟨4, .data⟩], none⟩) (v := .int .i64 8) rfl (by kernel_rfl) (by kernel_rfl) (by kernel_rfl) (fun _ _ _ h => h) (Or.inl ⟨by rfl, fun w9 hS9 => ?_⟩) hHeld1 ?_
  · obtain ⟨g0, _⟩ := hS9
    go_simp
  simp only [Act.put, List.setIfInBounds_toArray, List.set_cons_zero, List.set_cons_succ]
  refine wpAnyH_ready (rs := [6]) (by kernel_rfl) (by simp) ?_
  refine AllReadyH.cons (o := ⟨some 104, .call { callee := .value (.tmp 98), args := #[.tmp 100, .tmp 103, .const (.string { data := #[68, 101, 118, 109, 105, 110, 111, 114] }), .const (.string { data := #[] })], argTypes := #[2, 3, 9, 9] }, 0, "common.go:432", #[⟨0, .data⟩, ⟨2, .data⟩, ⟨5, .data⟩, ⟨4, .chain⟩], none⟩) rfl (fun K9 hK9 => ?_) AllReadyH.nil
  go_simp
  refine (vNum h.min 8 6 ⟨#[68, 101, 118, 109, 105, 110, 111, 114]⟩ ⟨#[]⟩ true _ HS.out.drew (by decide) (by decide) HOK.out.min (by decide) (by decide) (by have := HL.out.1; omega) keyNone.1 keyNone.2 HT.out).mono ?_
  rintro e w13 ⟨rfl, k13, hk13, hz13, hA13⟩
  have HA13 := Lib.hid hA13
  have HL2 : Hid (((L ++ List.replicate k13 (⟨#[]⟩, mkS (intL h.min)) : List (ByteArray × ByteArray))).length ≤ 20 ∧ ∀ y ∈ ((L ++ List.replicate k13 (⟨#[]⟩, mkS (intL h.min)) : List (ByteArray × ByteArray))), FR h mx an ax cn cx R y) := Lib.hid (fe_stepz HL.out hk13 ((hz13 rfl).imp id (fun h9 => .inr ⟨mem_of_at1 h9.1 h9.2, basNone.1, basNone.2⟩)))
  clear hA13
  refine hK9.out _ _ (⟨HA13.out.hd.cell 16, trivial⟩) (fun hHeld2 => ?_)
  clear hK9 K9
  try simp only [Act.put, List.setIfInBounds_toArray, List.set_cons_zero, List.set_cons_succ]
  refine wpAnyH_done (by kernel_rfl) ?_ _
  clear HS HL hHeld hHeld1 hHeld2
  obtain ⟨L9, hL9⟩ : ∃ L9, (L ++ List.replicate k13 (⟨#[]⟩, mkS (intL h.min)) : List (ByteArray × ByteArray)) = L9 := ⟨_, rfl⟩
  rw [hL9] at HA13 HL2
  clear hL9
  clear hz13 hk13 k13
  have HS := HA13
  have HL := HL2
  clear HA13 HL2
  obtain ⟨L, hL⟩ : ∃ L, L = L9 := ⟨_, rfl⟩
  rw [← hL] at HS HL
  clear hL L9
  go_upto_region 22 with fail
  refine wp_region_held_drew (S := fun w' => w'.cell? ⟨B, 9, none⟩ = some (.int .u64 h.mn) ∧ w'.cell? ⟨B, 10, none⟩ = some (.int .i64 mx) ∧ True) (by kernel_rfl) (⟨HS.out.drew.hd.cell 9, HS.out.drew.hd.cell 10, trivial⟩) (fun hHeld => ?_)
  refine wpAnyH_take (i := 0) (oi := ⟨some 105, .move (.tmp 11), 139, "common.go:433", #[], none⟩) (v := .func (.func 80) #[] #[.pointer (some ⟨B + 6, 0, none⟩), .pointer (some ⟨B + 1, 0, none⟩), .pointer (some ⟨B + 4, 0, none⟩), .pointer (some ⟨B + 7, 0, none⟩), .pointer (some ⟨B + 5, 0, none⟩), .pointer (some ⟨B + 2, 0, none⟩), .pointer (some ⟨B, 0, none⟩)]) rfl (by kernel_rfl) (by kernel_rfl) (by kernel_rfl) (fun _ _ _ h => h) (Or.inl ⟨by rfl, fun w9 hS9 => ?_⟩) hHeld ?_
  · obtain ⟨g0, g1, _⟩ := hS9
    go_simp
  simp only [Act.put, List.setIfInBounds_toArray, List.set_cons_zero, List.set_cons_succ]
  refine wpAnyH_take (i := 1) (oi := ⟨some 106, .fieldAddr 75 (.tmp 1) 9, 0, "common.go:433", #[], none⟩) (v := .pointer (some ⟨B, 9, none⟩)) rfl (by kernel_rfl) (by kernel_rfl) (by kernel_rfl) (fun _ _ _ h => h) (Or.inl ⟨by rfl, fun w9 hS9 => ?_⟩) hHeld ?_
  · obtain ⟨g0, g1, _⟩ := hS9
    go_simp
  simp only [Act.put, List.setIfInBounds_toArray, List.set_cons_zero, List.set_cons_succ]
  refine wpAnyH_take (i := 2) (oi := ⟨some 107, .load 71 (.tmp 106), 71, "common.go:433", #[⟨1, .data⟩], none⟩) (v := .agg #[.int .u64 h.mn, .int .i64 mx]) rfl (by kernel_rfl) (by kernel_rfl) (by kernel_rfl) (fun _ _ _ h => h) (Or.inl ⟨by rfl, fun w9 hS9 => ?_⟩) hHeld ?_
  · obtain ⟨g0, g1, _⟩ := hS9
    go_simp
  simp only [Act.put, List.setIfInBounds_toArray, List.set_cons_zero, List.set_cons_succ]
  refine wpAnyH_take (i := 3) (oi := ⟨some 108, .move (.tmp 13), 122, "common.go:433", #[], none⟩) (v := .pointer (some ⟨B + 8, 0, none⟩)) rfl (by kernel_rfl) (by kernel_rfl) (by kernel_rfl) (fun _ _ _ h => h) (Or.inl ⟨by rfl, fun w9 hS9 => ?_⟩) hHeld ?_
  · obtain ⟨g0, g1, _⟩ := hS9
    go_simp
  simp only [Act.put, List.setIfInBounds_toArray, List.set_cons_zero, List.set_cons_succ]
  refine wpAnyH_ready (rs := [4]) (by kernel_rfl) (by simp) ?_
  refine AllReadyH.cons (o := ⟨some 109, .call { callee := .value (.func 96), args := #[.tmp 108], argTypes := #[122] }, 35, "common.go:433", #[⟨3, .data⟩], none⟩) rfl (fun K9 hK9 => ?_) AllReadyH.nil
  go_simp
  refine (fld_modTime _ _).mono ?_
  rintro e wV ⟨rfl, hwV⟩
  subst hwV
  refine hK9.out _ _ (hHeld) (fun hHeld1 => ?_)
  clear hK9 K9
  try simp only [Act.put, List.setIfInBounds_toArray, List.set_cons_zero, List.set_cons_succ]
  refine wpAnyH_take (i := 5) (oi := ⟨some 110, .call { callee := .builtin .len, args := #[.tmp 109], argTypes := #[35] }, 3, "common.go:433", #[⟨4, .data⟩], none⟩) (v := .int .i64 12) rfl (by kernel_rfl) (by kernel_rfl) (by kernel_rfl) (fun _ _ _ h => h) (Or.inl ⟨by rfl, fun w9 hS9 => ?_⟩) hHeld1 ?_
  · obtain ⟨g0, g1, _⟩ := hS9
    go_simp
  simp only [Act.put, List.setIfInBounds_toArray, List.set_cons_zero, List.set_cons_succ]
  refine wpAnyH_ready (rs := [6]) (by kernel_rfl) (by simp) ?_
  refine AllReadyH.cons (o := ⟨some 111, .call { callee := .value (.tmp 105), args := #[.tmp 107, .tmp 110, .const (.string { data := #[77, 111, 100, 84, 105, 109, 101] }), .const (.string { data := #[109, 116, 105, 109, 101] })], argTypes := #[71, 3, 9, 9] }, 0, "common.go:433", #[⟨0, .data⟩, ⟨2, .data⟩, ⟨5, .data⟩, ⟨4, .chain⟩], none⟩) rfl (fun K9 hK9 => ?_) AllReadyH.nil
  go_simp
  refine (vTim h.mn mx ⟨#[77, 111, 100, 84, 105, 109, 101]⟩ ⟨#[109, 116, 105, 109, 101]⟩ true _ HS.out.drew HT1.out (by decide) (by decide) (by decide) (by have := HL.out.1; omega) (strLen _ rfl) HT.out).mono ?_
  rintro e w13 ⟨rfl, E13, hE13, hE14, hz13, hA13⟩
  have HA13 := Lib.hid hA13
  have HL2 : Hid ((L ++ E13).length ≤ 22 ∧ ∀ y ∈ (L ++ E13), FR h mx an ax cn cx R y) := Lib.hid (fe_appz HL.out hE13 hz13 (fun hz y hy => by obtain ⟨y1, y2⟩ := y; obtain ⟨g1, g2⟩ := hE14 _ hy; subst g1; exact .inl (FE.mt y2 g2 hz)))
  clear hA13
  refine hK9.out _ _ (⟨HA13.out.hd.cell 9, HA13.out.hd.cell 10, trivial⟩) (fun hHeld2 => ?_)
  clear hK9 K9
  try simp only [Act.put, List.setIfInBounds_toArray, List.set_cons_zero, List.set_cons_succ]
  refine wpAnyH_done (by kernel_rfl) ?_ _
  clear HS HL hHeld hHeld1 hHeld2
  obtain ⟨L9, hL9⟩ : ∃ L9, L ++ E13 = L9 := ⟨_, rfl⟩
  rw [hL9] at HA13 HL2
  clear hL9
  clear hE13 hE14 hz13 E13
  have HS := HA13
  have HL := HL2
  clear HA13 HL2
  obtain ⟨L, hL⟩ : ∃ L, L = L9 := ⟨_, rfl⟩
  rw [← hL] at HS HL
  clear hL L9
  go_upto_region 23 with fail
  refine wp_region_held_drew (S := fun w' => w'.cell? ⟨B, 11, none⟩ = some (.int .u64 an) ∧ w'.cell? ⟨B, 12, none⟩ = some (.int .i64 ax) ∧ True) (by kernel_rfl) (⟨HS.out.drew.hd.cell 11, HS.out.drew.hd.cell 12, trivial⟩) (fun hHeld => ?_)
  refine wpAnyH_take (i := 0) (oi := ⟨some 112, .move (.tmp 11), 139, "common.go:434", #[], none⟩) (v := .func (.func 80) #[] #[.pointer (some ⟨B + 6, 0, none⟩), .pointer (some ⟨B + 1, 0, none⟩), .pointer (some ⟨B + 4, 0, none⟩), .pointer (some ⟨B + 7, 0, none⟩), .pointer (some ⟨B + 5, 0, none⟩), .pointer (some ⟨B + 2, 0, none⟩), .pointer (some ⟨B, 0, none⟩)]) rfl (by kernel_rfl) (by kernel_rfl) (by kernel_rfl) (fun _ _ _ h => h) (Or.inl ⟨by rfl, fun w9 hS9 => ?_⟩) hHeld ?_
  · obtain ⟨g0, g1, _⟩ := hS9
    go_simp
  simp only [Act.put, List.setIfInBounds_toArray, List.set_cons_zero, List.set_cons_succ]
  refine wpAnyH_take (i := 1) (oi := ⟨some 113, .fieldAddr 75 (.tmp 1) 10, 0, "common.go:434", #[], none⟩) (v := .pointer (some ⟨B, 11, none⟩)) rfl (by kernel_rfl) (by kernel_rfl) (by kernel_rfl) (fun _ _ _ h => h) (Or.inl ⟨by rfl, fun w9 hS9 => ?_⟩) hHeld ?_
  · obtain ⟨g0, g1, _⟩ := hS9
    go_simp
  simp only [Act.put, List.setIfInBounds_toArray, List.set_cons_zero, List.set_cons_succ]
  refine wpAnyH_take (i := 2) (oi := ⟨some 114, .load 71 (.tmp 113), 71, "common.go:434", #[⟨1, .data⟩], none⟩) (v := .agg #[.int .u64 an, .int .i64 ax]) rfl (by kernel_rfl) (by kernel_rfl) (by kernel_rfl) (fun _ _ _ h => h) (Or.inl ⟨by rfl, fun w9 hS9 => ?_⟩) hHeld ?_
  · obtain ⟨g0, g1, _⟩ := hS9
    go_simp
  simp only [Act.put, List.setIfInBounds_toArray, List.set_cons_zero, List.set_cons_succ]
  refine wpAnyH_take (i := 3) (oi := ⟨some 115, .move (.tmp 15), 140, "common.go:434", #[], none⟩) (v := .pointer (some ⟨B + 8, 0, none⟩)) rfl (by kernel_rfl) (by kernel_rfl) (by kernel_rfl) (fun _ _ _ h => h) (Or.inl ⟨by rfl, fun w9 hS9 => ?_⟩) hHeld ?_
  · obtain ⟨g0, g1, _⟩ := hS9
    go_simp
  simp only [Act.put, List.setIfInBounds_toArray, List.set_cons_zero, List.set_cons_succ]
  refine wpAnyH_ready (rs := [4]) (by kernel_rfl) (by simp) ?_
  refine AllReadyH.cons (o := ⟨some 116, .call { callee := .value (.func 97), args := #[.tmp 115], argTypes := #[140] }, 35, "common.go:434", #[⟨3, .data⟩], none⟩) rfl (fun K9 hK9 => ?_) AllReadyH.nil
  go_simp
  refine (fld_accessTime _ _).mono ?_
  rintro e wV ⟨rfl, hwV⟩
  subst hwV
  refine hK9.out _ _ (hHeld) (fun hHeld1 => ?_)
  clear hK9 K9
  try simp only [Act.put, List.setIfInBounds_toArray, List.set_cons_zero, List.set_cons_succ]
  refine wpAnyH_take (i := 5) (oi := ⟨some 117, .call { callee := .builtin .len, args := #[.tmp 116], argTypes := #[35] }, 3, "common.go:434", #[⟨4, .data⟩], none⟩) (v := .int .i64 12) rfl (by kernel_rfl) (by kernel_rfl) (by kernel_rfl) (fun _ _ _ h => h) (Or.inl ⟨by rfl, fun w9 hS9 => ?_⟩) hHeld1 ?_
  · obtain ⟨g0, g1, _⟩ := hS9
    go_simp
  simp only [Act.put, List.setIfInBounds_toArray, List.set_cons_zero, List.set_cons_succ]
  refine wpAnyH_ready (rs := [6]) (by kernel_rfl) (by simp) ?_
  refine AllReadyH.cons (o := ⟨some 118, .call { callee := .value (.tmp 112), args := #[.tmp 114, .tmp 117, .const (.string { data := #[65, 99, 99, 101, 115, 115, 84, 105, 109, 101] }), .const (.string { data := #[97, 116, 105, 109, 101] })], argTypes := #[71, 3, 9, 9] }, 0, "common.go:434", #[⟨0, .data⟩, ⟨2, .data⟩, ⟨5, .data⟩, ⟨4, .chain⟩], none⟩) rfl (fun K9 hK9 => ?_) AllReadyH.nil
  go_simp
  refine (vTim an ax ⟨#[65, 99, 99, 101, 115, 115, 84, 105, 109, 101]⟩ ⟨#[97, 116, 105, 109, 101]⟩ false _ HS.out.drew HT2.out (by decide) (by decide) (by decide) (by have := HL.out.1; omega) (strLen _ rfl) HT.out).mono ?_
  rintro e w13 ⟨rfl, E13, hE13, hE14, hz13, hA13⟩
  have HA13 := Lib.hid hA13
  have HL2 : Hid ((L ++ E13).length ≤ 24 ∧ ∀ y ∈ (L ++ E13), FR h mx an ax cn cx R y) := Lib.hid (fe_appz HL.out hE13 hz13 (fun hz y hy => by obtain ⟨y1, y2⟩ := y; obtain ⟨g1, g2⟩ := hE14 _ hy; subst g1; exact .inl (FE.at_ y2 g2 hz)))
  clear hA13
  refine hK9.out _ _ (⟨HA13.out.hd.cell 11, HA13.out.hd.cell 12, trivial⟩) (fun hHeld2 => ?_)
  clear hK9 K9
  try simp only [Act.put, List.setIfInBounds_toArray, List.set_cons_zero, List.set_cons_succ]
  refine wpAnyH_done (by kernel_rfl) ?_ _
  clear HS HL hHeld hHeld1 hHeld2
  obtain ⟨L9, hL9⟩ : ∃ L9, L ++ E13 = L9 := ⟨_, rfl⟩
  rw [hL9] at HA13 HL2
  clear hL9
  clear hE13 hE14 hz13 E13
  have HS := HA13
  have HL := HL2
  clear HA13 HL2
  obtain ⟨L, hL⟩ : ∃ L, L = L9 := ⟨_, rfl⟩
  rw [← hL] at HS HL
  clear hL L9
  go_upto_region 24 with fail
  refine wp_region_held_drew (S := fun w' => w'.cell? ⟨B, 13, none⟩ = some (.int .u64 cn) ∧ w'.cell? ⟨B, 14, none⟩ = some (.int .i64 cx) ∧ True) (by kernel_rfl) (⟨HS.out.drew.hd.cell 13, HS.out.drew.hd.cell 14, trivial⟩) (fun hHeld => ?_)
  refine wpAnyH_take (i := 0) (oi := ⟨some 119, .move (.tmp 11), 139, "common.go:435", #[], none⟩) (v := .func (.func 80) #[] #[.pointer (some ⟨B + 6, 0, none⟩), .pointer (some ⟨B + 1, 0, none⟩), .pointer (some ⟨B + 4, 0, none⟩), .pointer (some ⟨B + 7, 0, none⟩), .pointer (some ⟨B + 5, 0, none⟩), .pointer (some ⟨B + 2, 0, none⟩), .pointer (some ⟨B, 0, none⟩)]) rfl (by kernel_rfl) (by kernel_rfl) (by kernel_rfl) (fun _ _ _ h => h) (Or.inl ⟨by rfl, fun w9 hS9 => ?_⟩) hHeld ?_
  · obtain ⟨g0, g1, _⟩ := hS9
    go_simp
  simp only [Act.put, List.setIfInBounds_toArray, List.set_cons_zero, List.set_cons_succ]
  refine wpAnyH_take (i := 1) (oi := ⟨some 120, .fieldAddr 75 (.tmp 1) 11, 0, "common.go:435", #[], none⟩) (v := .pointer (some ⟨B, 13, none⟩)) rfl (by kernel_rfl) (by kernel_rfl) (by kernel_rfl) (fun _ _ _ h => h) (Or.inl ⟨by rfl, fun w9 hS9 => ?_⟩) hHeld ?_
  · obtain ⟨g0, g1, _⟩ := hS9
    go_simp
  simp only [Act.put, List.setIfInBounds_toArray, List.set_cons_zero, List.set_cons_succ]
  refine wpAnyH_take (i := 2) (oi := ⟨some 121, .load 71 (.tmp 120), 71, "common.go:435", #[⟨1, .data⟩], none⟩) (v := .agg #[.int .u64 cn, .int .i64 cx]) rfl (by kernel_rfl) (by kernel_rfl) (by kernel_rfl) (fun _ _ _ h => h) (Or.inl ⟨by rfl, fun w9 hS9 => ?_⟩) hHeld ?_
  · obtain ⟨g0, g1, _⟩ := hS9
    go_simp
  simp only [Act.put, List.setIfInBounds_toArray, List.set_cons_zero, List.set_cons_succ]
  refine wpAnyH_take (i := 3) (oi := ⟨some 122, .move (.tmp 15), 140, "common.go:435", #[], none⟩) (v := .pointer (some ⟨B + 8, 0, none⟩)) rfl (by kernel_rfl) (by kernel_rfl) (by kernel_rfl) (fun _ _ _ h => h) (Or.inl ⟨by rfl, fun w9 hS9 => ?_⟩) hHeld ?_
  · obtain ⟨g0, g1, _⟩ := hS9
    go_simp
  simp only [Act.put, List.setIfInBounds_toArray, List.set_cons_zero, List.set_cons_succ]
  refine wpAnyH_ready (rs := [4]) (by kernel_rfl) (by simp) ?_
  refine AllReadyH.cons (o := ⟨some 123, .call { callee := .value (.func 98), args := #[.tmp 122], argTypes := #[140] }, 35, "common.go:435", #[⟨3, .data⟩], none⟩) rfl (fun K9 hK9 => ?_) AllReadyH.nil
  go_simp
  refine (fld_changeTime _ _).mono ?_
  rintro e wV ⟨rfl, hwV⟩
  subst hwV
  refine hK9.out _ _ (hHeld) (fun hHeld1 => ?_)
  clear hK9 K9
  try simp only [Act.put, List.setIfInBounds_toArray, List.set_cons_zero, List.set_cons_succ]
  refine wpAnyH_take (i := 5) (oi := ⟨some 124, .call { callee := .builtin .len, args := #[.tmp 123], argTypes := #[35] }, 3, "common.go:435", #[⟨4, .data⟩], none⟩) (v := .int .i64 12) rfl (by kernel_rfl) (by kernel_rfl) (by kernel_rfl) (fun _ _ _ h => h) (Or.inl ⟨by rfl, fun w9 hS9 => ?_⟩) hHeld1 ?_
  · obtain ⟨g0, g1, _⟩ := hS9
    go_simp
  simp only [Act.put, List.setIfInBounds_toArray, List.set_cons_zero, List.set_cons_succ]
  refine wpAnyH_ready (rs := [6]) (by kernel_rfl) (by simp) ?_
  refine AllReadyH.cons (o := ⟨some 125, .call { callee := .value (.tmp 119), args := #[.tmp 121, .tmp 124, .const (.string { data := #[67, 104, 97, 110, 103, 101, 84, 105, 109, 101] }), .const (.string { data := #[99, 116, 105, 109, 101] })], argTypes := #[71, 3, 9, 9] }, 0, "common.go:435", #[⟨0, .data⟩, ⟨2, .data⟩, ⟨5, .data⟩, ⟨4, .chain⟩], none⟩) rfl (fun K9 hK9 => ?_) AllReadyH.nil
  go_simp
  refine (vTim cn cx ⟨#[67, 104, 97, 110, 103, 101, 84, 105, 109, 101]⟩ ⟨#[99, 116, 105, 109, 101]⟩ false _ HS.out.drew HT3.out (by decide) (by decide) (by decide) (by have := HL.out.1; omega) (strLen _ rfl) HT.out).mono ?_
  rintro e w13 ⟨rfl, E13, hE13, hE14, hz13, hA13⟩
  have HA13 := Lib.hid hA13
  have HL2 : Hid ((L ++ E13).length ≤ 26 ∧ ∀ y ∈ (L ++ E13), FR h mx an ax cn cx R y) := Lib.hid (fe_appz HL.out hE13 hz13 (fun hz y hy => by obtain ⟨y1, y2⟩ := y; obtain ⟨g1, g2⟩ := hE14 _ hy; subst g1; exact .inl (FE.ct y2 g2 hz)))
  clear hA13
  refine hK9.out _ _ (⟨HA13.out.hd.cell 13, HA13.out.hd.cell 14, trivial⟩) (fun hHeld2 => ?_)
  clear hK9 K9
  try simp only [Act.put, List.setIfInBounds_toArray, List.set_cons_zero, List.set_cons_succ]
  refine wpAnyH_done (by kernel_rfl) ?_ _
  clear HS HL hHeld hHeld1 hHeld2
  obtain ⟨L9, hL9⟩ : ∃ L9, L ++ E13 = L9 := ⟨_, rfl⟩
  rw [hL9] at HA13 HL2
  clear hL9
  clear hE13 hE14 hz13 E13
  have HS := HA13
  have HL := HL2
  clear HA13 HL2
  obtain ⟨L, hL⟩ : ∃ L, L = L9 := ⟨_, rfl⟩
  rw [← hL] at HS HL
  clear hL L9
  go_upto_region 25 with fail
  rename_i kT0 hT0
  go_cut [16, 17] (fun a b wx => a = .string ⟨#[]⟩ ∧ b = .string ⟨#[]⟩ ∧ Hid (AF B (h.tcells mx an ax cn cx pm) pm R (UF h mx an ax cn cx) (PF h) (GF h mx an ax cn cx) L w wx))
  case first =>
    rename_i jN kN gN1 gN2; repeat (rename_i hh; clear hh); try (rename_i kX1; have := kX1; clear this; repeat (rename_i hh; clear hh)); try (rename_i kX2; have := kX2; clear this; repeat (rename_i hh; clear hh)); try (rename_i kX3; have := kX3; clear this; repeat (rename_i hh; clear hh)); try (rename_i kX4; have := kX4; clear this; repeat (rename_i hh; clear hh)); try (rename_i kX5; have := kX5; clear this; repeat (rename_i hh; clear hh)); try (rename_i kX6; have := kX6; clear this; repeat (rename_i hh; clear hh))
    clear hT0
    go_wp2_with fail
    go_meet
    case rel => exact ⟨rfl, rfl, HS⟩
  case rest =>
    obtain ⟨rfl, rfl, HS1⟩ := hcut
    have hK := fe_size h mx an ax cn cx HOK.out HSZ.out
    exact hT0 _ _ (tail26 X h mx an ax cn cx pm R B w _ _ _ _ L _ _ _ _ _ _ _ _ _ _ _ _ _ _ _ _ _ _ _ _ _ _ _ _ _ _ _ _ _ _ _ _ _ _ _ _ _ _ _ _ _ _ _ _ _ _ _ _ _ _ _ _ _ _ _ _ _ _ _ _ _ _ _ _ _ _ _ _ _ _ _ _ _ _ _ _ _ _ _ _ _ _ _ _ _ _ _ _ _ _ _ _ _ _ _ _ _ _ _ _ _ _ _ _ _ _ _ _ _ _ _ _ _ _ _ _ _ _ _ _ _ _ _ _ _ _ _ _ _ _ _ _ _ _ _ _ _ _ _ _ _ _ _ _ _ _ _ _ _ _ _ _ _ _ _ _ _ _ _ _ _ _ _ _ _ _ _ _ _ _ _ _ _ _ _ _ _ _ _ _ _ _ _ _ _ _ _ _ _ _ _ _ _ _ _ _ _ _ _ _ _ _ _ _ _ _ _ _ _ _ _ _ _ _ _ _ _ _ _ _ _ _ _ _ _ _ _ _ _ _ _ _ _ _ _ _ _ _ _ _ _ _ _ _ _ _ _ _ _ _ _ _ _ _ _ _ _ _ _ _ _ _ _ _ _ _ _ _ _ _ _ _ _ _ _ HBB.out HS1.out HNZ.out HSZ.out.1 HL.out hK (fun x hx => by
      rcases HL.out.2 x hx with h9 | ⟨h9, _, _⟩
      · exact hK x h9
      · obtain ⟨a1, a2⟩ := HRS.out x (mem_tab h9)
        exact ⟨by omega, by omega⟩) HRS.out HRL.out HRN.out HBK.out rfl rfl rfl)
end Go.Proofs.YtepeehjajhehfaaGreatDoor
