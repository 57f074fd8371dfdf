/- impl.header: its walk. -/
import Derived.Test.YtepeehjajhehfaaGreatDoorMA7
import Derived.Test.YtepeehjajhehfaaGreatDoorMA4
import Derived.Test.YtepeehjajhehfaaGreatDoorMA5
import Derived.Test.YtepeehjajhehfaaGreatDoorMA2
import Derived.Deep.DeepCutAuto
import Derived.Deep.RegionHeld3
namespace Go.Proofs.YtepeehjajhehfaaGreatDoor
open Go.RowKit Go.PlainAid Go.Maps Go.ChangeMaps Go.MapKept Go.WideMaps
set_option linter.unusedVariables false

/-- The cells of a header of package tar (without Xattrs, of no format): its times and its map of records besides what the plain header has. -/
def Hd.tcells (h : Hd) (mx an ax cn cx : Int) (pm : Option Nat) : List Value := [.int .u8 h.ty, .string h.name, .string h.link, .int .i64 h.size, .int .i64 h.mode, .int .i64 h.uid, .int .i64 h.gid, .string h.un, .string h.gn, .int .u64 h.mn, .int .i64 mx, .int .u64 an, .int .i64 ax, .int .u64 cn, .int .i64 cx, .int .i64 h.maj, .int .i64 h.min, .map none, .map pm, .int .i64 0]
/-- What stands while header reads its argument. -/
def IhS (h : Hd) (H : Nat) (w w' : World) : Prop := w'.cell? ⟨H, 0, none⟩ = some (.int .u8 h.ty) ∧ w'.cell? ⟨H, 1, none⟩ = some (.string h.name) ∧ w'.cell? ⟨H, 2, none⟩ = some (.string h.link) ∧ w'.cell? ⟨H, 3, none⟩ = some (.int .i64 h.size) ∧ w'.cell? ⟨H, 4, none⟩ = some (.int .i64 h.mode) ∧ w'.cell? ⟨H, 5, none⟩ = some (.int .i64 h.uid) ∧ w'.cell? ⟨H, 6, none⟩ = some (.int .i64 h.gid) ∧ w'.cell? ⟨H, 7, none⟩ = some (.string h.un) ∧ w'.cell? ⟨H, 8, none⟩ = some (.string h.gn) ∧ w'.cell? ⟨H, 9, none⟩ = some (.int .i64 h.ms) ∧ w'.cell? ⟨H, 10, none⟩ = some (.int .i64 h.mn) ∧ w'.cell? ⟨H, 11, none⟩ = some (.bool h.ha) ∧ w'.cell? ⟨H, 12, none⟩ = some (.int .i64 h.as_) ∧ w'.cell? ⟨H, 13, none⟩ = some (.int .i64 h.an) ∧ w'.cell? ⟨H, 14, none⟩ = some (.bool h.hc) ∧ w'.cell? ⟨H, 15, none⟩ = some (.int .i64 h.cs) ∧ w'.cell? ⟨H, 16, none⟩ = some (.int .i64 h.cn) ∧ w'.cell? ⟨H, 17, none⟩ = some (.int .i64 h.maj) ∧ w'.cell? ⟨H, 18, none⟩ = some (.int .i64 h.min) ∧ w'.cell? ⟨H, 19, none⟩ = some (.slice h.rA h.rn h.rc) ∧ w'.cell? ⟨H, 20, none⟩ = some (.int .i64 0) ∧ Blk w' H 26 h.icells ∧ Below w.heap.size w w'
theorem IhS.of {h : Hd} {H : Nat} {w w' : World} (hf : h.fm = 0) (hb : Blk w' H 26 h.icells) (hw : Below w.heap.size w w') : IhS h H w w' :=
  ⟨hb.cell 0, hb.cell 1, hb.cell 2, hb.cell 3, hb.cell 4, hb.cell 5, hb.cell 6, hb.cell 7, hb.cell 8, hb.cell 9, hb.cell 10, hb.cell 11, hb.cell 12, hb.cell 13, hb.cell 14, hb.cell 15, hb.cell 16, hb.cell 17, hb.cell 18, hb.cell 19, by have h20 := hb.cell 20; rw [show h.icells[20]? = some (.int .i64 h.fm) from rfl, hf] at h20; exact h20, hb, hw⟩
theorem IhS.blk {h : Hd} {H : Nat} {w w' : World} (s : IhS h H w w') : Blk w' H 26 h.icells := s.2.2.2.2.2.2.2.2.2.2.2.2.2.2.2.2.2.2.2.2.2.1
theorem IhS.bel {h : Hd} {H : Nat} {w w' : World} (s : IhS h H w w') : Below w.heap.size w w' := s.2.2.2.2.2.2.2.2.2.2.2.2.2.2.2.2.2.2.2.2.2.2
theorem IhS.below {h : Hd} {H : Nat} {w w' w'' : World} (s : IhS h H w w') (hf : h.fm = 0) (hb : Below w'.heap.size w' w'') : IhS h H w w'' :=
  IhS.of hf (s.blk.below hb s.blk.lt) (s.bel.trans (hb.mono s.bel.size))
/-- The argument, the header that is made. -/
structure HSt (h : Hd) (H Hb : Nat) (cs : List Value) (w0 w : World) : Prop where
  arg : Blk w H 26 h.icells
  hd : Blk w Hb 75 cs
  lt : H < Hb
  bel : Below w0.heap.size w0 w
  eq : w0.heap.size = H
section
variable {h : Hd} {H Hb : Nat} {cs : List Value} {w0 w w' : World}
theorem HSt.below (s : HSt h H Hb cs w0 w) (hb : Below w.heap.size w w') : HSt h H Hb cs w0 w' := ⟨s.arg.below hb s.arg.lt, s.hd.below hb s.hd.lt, s.lt, s.bel.trans (hb.mono s.bel.size), s.eq⟩
theorem HSt.drew (s : HSt h H Hb cs w0 w) : HSt h H Hb cs w0 w.drew := s.below ((Below.refl _ _).drew)
theorem HSt.alloc (s : HSt h H Hb cs w0 w) (o : Obj) : HSt h H Hb cs w0 (w.alloc o) := s.below ((Below.refl _ _).alloc (Nat.le_refl _) o)
theorem HSt.put (s : HSt h H Hb cs w0 w) (i : Nat) (v : Value) : HSt h H Hb (cs.set i v) w0 (w.setCell ⟨Hb, i, none⟩ v) := ⟨s.arg.far (by have := s.lt; show H ≠ Hb; omega) _, s.hd.set_ i v, s.lt, s.bel.setCell (by have := s.lt; have := s.eq; show _ ≤ Hb; omega) _, s.eq⟩
theorem HSt.grown {q : Nat} (s : HSt h H Hb cs w0 w) (hg : w.grownBy w' (some q)) (hq : Hb < q) : HSt h H Hb cs w0 w' :=
  ⟨s.arg.grown hg (by have := s.lt; intro e; injection e with e; omega), s.hd.grown hg (by intro e; injection e with e; omega), s.lt, s.bel.grown hg s.bel.size (fun k hk => by cases hk; have := s.lt; have := s.eq; omega), s.eq⟩
end
/-- The seconds of package timecore. -/
def unx (s : Int) : Int := IntKind.i64.wrap (s + 62135596800)
/-- A time that may be there. -/
def MayT (b : Bool) (s n an ax : Int) : Prop := (b = true → an = n ∧ ax = unx s) ∧ (b = false → an = 0 ∧ ax = 0)
/-- The records as a map above B. -/
def NewMap (B : Nat) (pm : Option Nat) (rs : List (ByteArray × ByteArray)) (w : World) : Prop :=
  (pm = none ∧ rs = []) ∨ ∃ q, pm = some q ∧ B ≤ q ∧ 0 < rs.length ∧ w.ownsMap (H := Unit) Tryz.prog 9 (plainElem Tryz.prog 9) q rs.length (mapOf rs)
def HdrP (h : Hd) (rs : List (ByteArray × ByteArray)) (w : World) (e : Ending) (w' : World) : Prop :=
  ∃ Hb an ax cn cx pm, e = .returned (.pointer (some ⟨Hb, 0, none⟩)) ∧ Blk w' Hb 75 (h.tcells (unx h.ms) an ax cn cx pm) ∧ w.heap.size ≤ Hb ∧ MayT h.ha h.as_ h.an an ax ∧ MayT h.hc h.cs h.cn cn cx ∧ NewMap w.heap.size pm rs w' ∧ Below w.heap.size w w'
set_option maxRecDepth 20000 in
set_option maxHeartbeats 16000000 in
theorem implHeader (h : Hd) (B : Nat) (rs : List (ByteArray × ByteArray)) (w : World) (hl : rs.length = h.rn) (hr : RC w B h.rA (recsV rs)) (hB : B ≤ w.heap.size) (hfit : RecsFit rs) (hfm : h.fm = 0)
    (hm : 0 ≤ h.mn ∧ h.mn < 1000000000) (ha : h.ha = true → 0 ≤ h.an ∧ h.an < 1000000000) (hc : h.hc = true → 0 ≤ h.cn ∧ h.cn < 1000000000) :
    Calls Tryz.prog 32 #[h.ival] w (HdrP h rs w) := by
  have HB0 : Hid (Blk (w.alloc (.cells h.iarr 26)) w.heap.size 26 h.icells) := Lib.hid (h.iblk w _)
  have HW : Hid (Below w.heap.size w (w.alloc (.cells h.iarr 26))) := Lib.hid ((Below.refl _ _).alloc (Nat.le_refl _) _)
  have HU := fun w => Lib.hid (unix_pos h.ms h.mn (unx h.ms) w hm.1 hm.2 rfl)
  have HUA : Hid (h.ha = true → ∀ w, Calls Tryz.prog 54 #[.int .i64 h.as_, .int .i64 h.an] w (TimPost h.an (unx h.as_) w)) := Lib.hid (fun h1 w => unix_pos h.as_ h.an (unx h.as_) w (ha h1).1 (ha h1).2 rfl)
  have HUC : Hid (h.hc = true → ∀ w, Calls Tryz.prog 54 #[.int .i64 h.cs, .int .i64 h.cn] w (TimPost h.cn (unx h.cs) w)) := Lib.hid (fun h1 w => unix_pos h.cs h.cn (unx h.cs) w (hc h1).1 (hc h1).2 rfl)
  have HFM := Lib.hid hfm
  have HRC : Hid (∀ w1, Below w.heap.size w w1 → RC w1 B h.rA (recsV rs)) := Lib.hid (fun w1 hb => hr.below (hb.mono hB))
  have HFIT := Lib.hid hfit
  have HL := Lib.hid hl
  unfold Hd.ival
  clear hl hr hfit hfm hm ha hc hB
  go_enter Tryz.func32, Tryz.ntmps32
  go_upto_region 1 with fail
  generalize w.alloc (.cells h.iarr 26) = w1 at HB0 HW ⊢
  obtain ⟨H, hH⟩ : ∃ H, w.heap.size = H := ⟨_, rfl⟩
  rw [hH] at HB0
  rw [hH]
  have HH := Lib.hid hH
  clear hH
  have KS : Hid (IhS h H w w1.drew) := Lib.hid (IhS.of HFM.out (HB0.out.below ((Below.refl _ w1).drew) HB0.out.lt) HW.out.drew)
  clear HB0 HW
  refine wp_region_held_drew (S := fun w' => IhS h H w w') (by kernel_rfl) (KS.out) (fun hHeld => ?_)
  refine wpAnyH_take (i := 0) (oi := ⟨some 6, .fieldAddr 26 (.tmp 1) 0, 0, "impl.go:133", #[], none⟩) (v := .pointer (some ⟨H, 0, none⟩)) rfl (by kernel_rfl) (by kernel_rfl) (by kernel_rfl) (fun _ _ _ h => h) (Or.inl ⟨by rfl, fun w9 hS9 => ?_⟩) hHeld ?_
  · obtain ⟨g0, g1, g2, g3, g4, g5, g6, g7, g8, g9, g10, g11, g12, g13, g14, g15, g16, g17, g18, g19, g20, _⟩ := hS9
    go_simp
  simp only [Act.put, List.setIfInBounds_toArray, List.set_cons_zero, List.set_cons_succ]
  refine wpAnyH_take (i := 1) (oi := ⟨some 7, .load 5 (.tmp 6), 5, "impl.go:133", #[⟨0, .data⟩], none⟩) (v := .int .u8 h.ty) rfl (by kernel_rfl) (by kernel_rfl) (by kernel_rfl) (fun _ _ _ h => h) (Or.inl ⟨by rfl, fun w9 hS9 => ?_⟩) hHeld ?_
  · obtain ⟨g0, g1, g2, g3, g4, g5, g6, g7, g8, g9, g10, g11, g12, g13, g14, g15, g16, g17, g18, g19, g20, _⟩ := hS9
    go_simp
  simp only [Act.put, List.setIfInBounds_toArray, List.set_cons_zero, List.set_cons_succ]
  refine wpAnyH_take (i := 2) (oi := ⟨some 8, .fieldAddr 26 (.tmp 1) 1, 0, "impl.go:133", #[], none⟩) (v := .pointer (some ⟨H, 1, none⟩)) rfl (by kernel_rfl) (by kernel_rfl) (by kernel_rfl) (fun _ _ _ h => h) (Or.inl ⟨by rfl, fun w9 hS9 => ?_⟩) hHeld ?_
  · obtain ⟨g0, g1, g2, g3, g4, g5, g6, g7, g8, g9, g10, g11, g12, g13, g14, g15, g16, g17, g18, g19, g20, _⟩ := hS9
    go_simp
  simp only [Act.put, List.setIfInBounds_toArray, List.set_cons_zero, List.set_cons_succ]
  refine wpAnyH_take (i := 3) (oi := ⟨some 9, .load 9 (.tmp 8), 9, "impl.go:133", #[⟨2, .data⟩], none⟩) (v := .string h.name) rfl (by kernel_rfl) (by kernel_rfl) (by kernel_rfl) (fun _ _ _ h => h) (Or.inl ⟨by rfl, fun w9 hS9 => ?_⟩) hHeld ?_
  · obtain ⟨g0, g1, g2, g3, g4, g5, g6, g7, g8, g9, g10, g11, g12, g13, g14, g15, g16, g17, g18, g19, g20, _⟩ := hS9
    go_simp
  simp only [Act.put, List.setIfInBounds_toArray, List.set_cons_zero, List.set_cons_succ]
  refine wpAnyH_take (i := 4) (oi := ⟨some 10, .fieldAddr 26 (.tmp 1) 2, 0, "impl.go:133", #[], none⟩) (v := .pointer (some ⟨H, 2, none⟩)) rfl (by kernel_rfl) (by kernel_rfl) (by kernel_rfl) (fun _ _ _ h => h) (Or.inl ⟨by rfl, fun w9 hS9 => ?_⟩) hHeld ?_
  · obtain ⟨g0, g1, g2, g3, g4, g5, g6, g7, g8, g9, g10, g11, g12, g13, g14, g15, g16, g17, g18, g19, g20, _⟩ := hS9
    go_simp
  simp only [Act.put, List.setIfInBounds_toArray, List.set_cons_zero, List.set_cons_succ]
  refine wpAnyH_take (i := 5) (oi := ⟨some 11, .load 9 (.tmp 10), 9, "impl.go:133", #[⟨4, .data⟩], none⟩) (v := .string h.link) rfl (by kernel_rfl) (by kernel_rfl) (by kernel_rfl) (fun _ _ _ h => h) (Or.inl ⟨by rfl, fun w9 hS9 => ?_⟩) hHeld ?_
  · obtain ⟨g0, g1, g2, g3, g4, g5, g6, g7, g8, g9, g10, g11, g12, g13, g14, g15, g16, g17, g18, g19, g20, _⟩ := hS9
    go_simp
  simp only [Act.put, List.setIfInBounds_toArray, List.set_cons_zero, List.set_cons_succ]
  refine wpAnyH_take (i := 6) (oi := ⟨some 12, .fieldAddr 26 (.tmp 1) 3, 0, "impl.go:133", #[], none⟩) (v := .pointer (some ⟨H, 3, none⟩)) rfl (by kernel_rfl) (by kernel_rfl) (by kernel_rfl) (fun _ _ _ h => h) (Or.inl ⟨by rfl, fun w9 hS9 => ?_⟩) hHeld ?_
  · obtain ⟨g0, g1, g2, g3, g4, g5, g6, g7, g8, g9, g10, g11, g12, g13, g14, g15, g16, g17, g18, g19, g20, _⟩ := hS9
    go_simp
  simp only [Act.put, List.setIfInBounds_toArray, List.set_cons_zero, List.set_cons_succ]
  refine wpAnyH_take (i := 7) (oi := ⟨some 13, .load 2 (.tmp 12), 2, "impl.go:133", #[⟨6, .data⟩], none⟩) (v := .int .i64 h.size) rfl (by kernel_rfl) (by kernel_rfl) (by kernel_rfl) (fun _ _ _ h => h) (Or.inl ⟨by rfl, fun w9 hS9 => ?_⟩) hHeld ?_
  · obtain ⟨g0, g1, g2, g3, g4, g5, g6, g7, g8, g9, g10, g11, g12, g13, g14, g15, g16, g17, g18, g19, g20, _⟩ := hS9
    go_simp
  simp only [Act.put, List.setIfInBounds_toArray, List.set_cons_zero, List.set_cons_succ]
  refine wpAnyH_take (i := 8) (oi := ⟨some 14, .fieldAddr 26 (.tmp 1) 4, 0, "impl.go:133", #[], none⟩) (v := .pointer (some ⟨H, 4, none⟩)) rfl (by kernel_rfl) (by kernel_rfl) (by kernel_rfl) (fun _ _ _ h => h) (Or.inl ⟨by rfl, fun w9 hS9 => ?_⟩) hHeld ?_
  · obtain ⟨g0, g1, g2, g3, g4, g5, g6, g7, g8, g9, g10, g11, g12, g13, g14, g15, g16, g17, g18, g19, g20, _⟩ := hS9
    go_simp
  simp only [Act.put, List.setIfInBounds_toArray, List.set_cons_zero, List.set_cons_succ]
  refine wpAnyH_take (i := 9) (oi := ⟨some 15, .load 2 (.tmp 14), 2, "impl.go:133", #[⟨8, .data⟩], none⟩) (v := .int .i64 h.mode) rfl (by kernel_rfl) (by kernel_rfl) (by kernel_rfl) (fun _ _ _ h => h) (Or.inl ⟨by rfl, fun w9 hS9 => ?_⟩) hHeld ?_
  · obtain ⟨g0, g1, g2, g3, g4, g5, g6, g7, g8, g9, g10, g11, g12, g13, g14, g15, g16, g17, g18, g19, g20, _⟩ := hS9
    go_simp
  simp only [Act.put, List.setIfInBounds_toArray, List.set_cons_zero, List.set_cons_succ]
  refine wpAnyH_take (i := 10) (oi := ⟨some 16, .fieldAddr 26 (.tmp 1) 5, 0, "impl.go:133", #[], none⟩) (v := .pointer (some ⟨H, 5, none⟩)) rfl (by kernel_rfl) (by kernel_rfl) (by kernel_rfl) (fun _ _ _ h => h) (Or.inl ⟨by rfl, fun w9 hS9 => ?_⟩) hHeld ?_
  · obtain ⟨g0, g1, g2, g3, g4, g5, g6, g7, g8, g9, g10, g11, g12, g13, g14, g15, g16, g17, g18, g19, g20, _⟩ := hS9
    go_simp
  simp only [Act.put, List.setIfInBounds_toArray, List.set_cons_zero, List.set_cons_succ]
  refine wpAnyH_take (i := 11) (oi := ⟨some 17, .load 3 (.tmp 16), 3, "impl.go:133", #[⟨10, .data⟩], none⟩) (v := .int .i64 h.uid) rfl (by kernel_rfl) (by kernel_rfl) (by kernel_rfl) (fun _ _ _ h => h) (Or.inl ⟨by rfl, fun w9 hS9 => ?_⟩) hHeld ?_
  · obtain ⟨g0, g1, g2, g3, g4, g5, g6, g7, g8, g9, g10, g11, g12, g13, g14, g15, g16, g17, g18, g19, g20, _⟩ := hS9
    go_simp
  simp only [Act.put, List.setIfInBounds_toArray, List.set_cons_zero, List.set_cons_succ]
  refine wpAnyH_take (i := 12) (oi := ⟨some 18, .fieldAddr 26 (.tmp 1) 6, 0, "impl.go:133", #[], none⟩) (v := .pointer (some ⟨H, 6, none⟩)) rfl (by kernel_rfl) (by kernel_rfl) (by kernel_rfl) (fun _ _ _ h => h) (Or.inl ⟨by rfl, fun w9 hS9 => ?_⟩) hHeld ?_
  · obtain ⟨g0, g1, g2, g3, g4, g5, g6, g7, g8, g9, g10, g11, g12, g13, g14, g15, g16, g17, g18, g19, g20, _⟩ := hS9
    go_simp
  simp only [Act.put, List.setIfInBounds_toArray, List.set_cons_zero, List.set_cons_succ]
  refine wpAnyH_take (i := 13) (oi := ⟨some 19, .load 3 (.tmp 18), 3, "impl.go:133", #[⟨12, .data⟩], none⟩) (v := .int .i64 h.gid) rfl (by kernel_rfl) (by kernel_rfl) (by kernel_rfl) (fun _ _ _ h => h) (Or.inl ⟨by rfl, fun w9 hS9 => ?_⟩) hHeld ?_
  · obtain ⟨g0, g1, g2, g3, g4, g5, g6, g7, g8, g9, g10, g11, g12, g13, g14, g15, g16, g17, g18, g19, g20, _⟩ := hS9
    go_simp
  simp only [Act.put, List.setIfInBounds_toArray, List.set_cons_zero, List.set_cons_succ]
  refine wpAnyH_take (i := 14) (oi := ⟨some 20, .fieldAddr 26 (.tmp 1) 7, 0, "impl.go:133", #[], none⟩) (v := .pointer (some ⟨H, 7, none⟩)) rfl (by kernel_rfl) (by kernel_rfl) (by kernel_rfl) (fun _ _ _ h => h) (Or.inl ⟨by rfl, fun w9 hS9 => ?_⟩) hHeld ?_
  · obtain ⟨g0, g1, g2, g3, g4, g5, g6, g7, g8, g9, g10, g11, g12, g13, g14, g15, g16, g17, g18, g19, g20, _⟩ := hS9
    go_simp
  simp only [Act.put, List.setIfInBounds_toArray, List.set_cons_zero, List.set_cons_succ]
  refine wpAnyH_take (i := 15) (oi := ⟨some 21, .load 9 (.tmp 20), 9, "impl.go:133", #[⟨14, .data⟩], none⟩) (v := .string h.un) rfl (by kernel_rfl) (by kernel_rfl) (by kernel_rfl) (fun _ _ _ h => h) (Or.inl ⟨by rfl, fun w9 hS9 => ?_⟩) hHeld ?_
  · obtain ⟨g0, g1, g2, g3, g4, g5, g6, g7, g8, g9, g10, g11, g12, g13, g14, g15, g16, g17, g18, g19, g20, _⟩ := hS9
    go_simp
  simp only [Act.put, List.setIfInBounds_toArray, List.set_cons_zero, List.set_cons_succ]
  refine wpAnyH_take (i := 16) (oi := ⟨some 22, .fieldAddr 26 (.tmp 1) 8, 0, "impl.go:133", #[], none⟩) (v := .pointer (some ⟨H, 8, none⟩)) rfl (by kernel_rfl) (by kernel_rfl) (by kernel_rfl) (fun _ _ _ h => h) (Or.inl ⟨by rfl, fun w9 hS9 => ?_⟩) hHeld ?_
  · obtain ⟨g0, g1, g2, g3, g4, g5, g6, g7, g8, g9, g10, g11, g12, g13, g14, g15, g16, g17, g18, g19, g20, _⟩ := hS9
    go_simp
  simp only [Act.put, List.setIfInBounds_toArray, List.set_cons_zero, List.set_cons_succ]
  refine wpAnyH_take (i := 17) (oi := ⟨some 23, .load 9 (.tmp 22), 9, "impl.go:133", #[⟨16, .data⟩], none⟩) (v := .string h.gn) rfl (by kernel_rfl) (by kernel_rfl) (by kernel_rfl) (fun _ _ _ h => h) (Or.inl ⟨by rfl, fun w9 hS9 => ?_⟩) hHeld ?_
  · obtain ⟨g0, g1, g2, g3, g4, g5, g6, g7, g8, g9, g10, g11, g12, g13, g14, g15, g16, g17, g18, g19, g20, _⟩ := hS9
    go_simp
  simp only [Act.put, List.setIfInBounds_toArray, List.set_cons_zero, List.set_cons_succ]
  refine wpAnyH_take (i := 18) (oi := ⟨some 24, .fieldAddr 26 (.tmp 1) 9, 0, "impl.go:133", #[], none⟩) (v := .pointer (some ⟨H, 9, none⟩)) rfl (by kernel_rfl) (by kernel_rfl) (by kernel_rfl) (fun _ _ _ h => h) (Or.inl ⟨by rfl, fun w9 hS9 => ?_⟩) hHeld ?_
  · obtain ⟨g0, g1, g2, g3, g4, g5, g6, g7, g8, g9, g10, g11, g12, g13, g14, g15, g16, g17, g18, g19, g20, _⟩ := hS9
    go_simp
  simp only [Act.put, List.setIfInBounds_toArray, List.set_cons_zero, List.set_cons_succ]
  refine wpAnyH_take (i := 19) (oi := ⟨some 25, .fieldAddr 23 (.tmp 24) 0, 0, "impl.go:133", #[⟨18, .data⟩], none⟩) (v := .pointer (some ⟨H, 9, none⟩)) rfl (by kernel_rfl) (by kernel_rfl) (by kernel_rfl) (fun _ _ _ h => h) (Or.inl ⟨by rfl, fun w9 hS9 => ?_⟩) hHeld ?_
  · obtain ⟨g0, g1, g2, g3, g4, g5, g6, g7, g8, g9, g10, g11, g12, g13, g14, g15, g16, g17, g18, g19, g20, _⟩ := hS9
    go_simp
  simp only [Act.put, List.setIfInBounds_toArray, List.set_cons_zero, List.set_cons_succ]
  refine wpAnyH_take (i := 20) (oi := ⟨some 26, .load 2 (.tmp 25), 2, "impl.go:133", #[⟨19, .data⟩], none⟩) (v := .int .i64 h.ms) rfl (by kernel_rfl) (by kernel_rfl) (by kernel_rfl) (fun _ _ _ h => h) (Or.inl ⟨by rfl, fun w9 hS9 => ?_⟩) hHeld ?_
  · obtain ⟨g0, g1, g2, g3, g4, g5, g6, g7, g8, g9, g10, g11, g12, g13, g14, g15, g16, g17, g18, g19, g20, _⟩ := hS9
    go_simp
  simp only [Act.put, List.setIfInBounds_toArray, List.set_cons_zero, List.set_cons_succ]
  refine wpAnyH_take (i := 21) (oi := ⟨some 27, .fieldAddr 26 (.tmp 1) 9, 0, "impl.go:133", #[], none⟩) (v := .pointer (some ⟨H, 9, none⟩)) rfl (by kernel_rfl) (by kernel_rfl) (by kernel_rfl) (fun _ _ _ h => h) (Or.inl ⟨by rfl, fun w9 hS9 => ?_⟩) hHeld ?_
  · obtain ⟨g0, g1, g2, g3, g4, g5, g6, g7, g8, g9, g10, g11, g12, g13, g14, g15, g16, g17, g18, g19, g20, _⟩ := hS9
    go_simp
  simp only [Act.put, List.setIfInBounds_toArray, List.set_cons_zero, List.set_cons_succ]
  refine wpAnyH_take (i := 22) (oi := ⟨some 28, .fieldAddr 23 (.tmp 27) 1, 0, "impl.go:133", #[⟨21, .data⟩], none⟩) (v := .pointer (some ⟨H, 10, none⟩)) rfl (by kernel_rfl) (by kernel_rfl) (by kernel_rfl) (fun _ _ _ h => h) (Or.inl ⟨by rfl, fun w9 hS9 => ?_⟩) hHeld ?_
  · obtain ⟨g0, g1, g2, g3, g4, g5, g6, g7, g8, g9, g10, g11, g12, g13, g14, g15, g16, g17, g18, g19, g20, _⟩ := hS9
    go_simp
  simp only [Act.put, List.setIfInBounds_toArray, List.set_cons_zero, List.set_cons_succ]
  refine wpAnyH_take (i := 23) (oi := ⟨some 29, .load 2 (.tmp 28), 2, "impl.go:133", #[⟨22, .data⟩], none⟩) (v := .int .i64 h.mn) rfl (by kernel_rfl) (by kernel_rfl) (by kernel_rfl) (fun _ _ _ h => h) (Or.inl ⟨by rfl, fun w9 hS9 => ?_⟩) hHeld ?_
  · obtain ⟨g0, g1, g2, g3, g4, g5, g6, g7, g8, g9, g10, g11, g12, g13, g14, g15, g16, g17, g18, g19, g20, _⟩ := hS9
    go_simp
  simp only [Act.put, List.setIfInBounds_toArray, List.set_cons_zero, List.set_cons_succ]
  refine wpAnyH_take (i := 25) (oi := ⟨some 31, .fieldAddr 26 (.tmp 1) 14, 0, "impl.go:133", #[], none⟩) (v := .pointer (some ⟨H, 17, none⟩)) rfl (by kernel_rfl) (by kernel_rfl) (by kernel_rfl) (fun _ _ _ h => h) (Or.inl ⟨by rfl, fun w9 hS9 => ?_⟩) hHeld ?_
  · obtain ⟨g0, g1, g2, g3, g4, g5, g6, g7, g8, g9, g10, g11, g12, g13, g14, g15, g16, g17, g18, g19, g20, _⟩ := hS9
    go_simp
  simp only [Act.put, List.setIfInBounds_toArray, List.set_cons_zero, List.set_cons_succ]
  refine wpAnyH_take (i := 26) (oi := ⟨some 32, .load 2 (.tmp 31), 2, "impl.go:133", #[⟨25, .data⟩], none⟩) (v := .int .i64 h.maj) rfl (by kernel_rfl) (by kernel_rfl) (by kernel_rfl) (fun _ _ _ h => h) (Or.inl ⟨by rfl, fun w9 hS9 => ?_⟩) hHeld ?_
  · obtain ⟨g0, g1, g2, g3, g4, g5, g6, g7, g8, g9, g10, g11, g12, g13, g14, g15, g16, g17, g18, g19, g20, _⟩ := hS9
    go_simp
  simp only [Act.put, List.setIfInBounds_toArray, List.set_cons_zero, List.set_cons_succ]
  refine wpAnyH_take (i := 27) (oi := ⟨some 33, .fieldAddr 26 (.tmp 1) 15, 0, "impl.go:133", #[], none⟩) (v := .pointer (some ⟨H, 18, none⟩)) rfl (by kernel_rfl) (by kernel_rfl) (by kernel_rfl) (fun _ _ _ h => h) (Or.inl ⟨by rfl, fun w9 hS9 => ?_⟩) hHeld ?_
  · obtain ⟨g0, g1, g2, g3, g4, g5, g6, g7, g8, g9, g10, g11, g12, g13, g14, g15, g16, g17, g18, g19, g20, _⟩ := hS9
    go_simp
  simp only [Act.put, List.setIfInBounds_toArray, List.set_cons_zero, List.set_cons_succ]
  refine wpAnyH_take (i := 28) (oi := ⟨some 34, .load 2 (.tmp 33), 2, "impl.go:133", #[⟨27, .data⟩], none⟩) (v := .int .i64 h.min) rfl (by kernel_rfl) (by kernel_rfl) (by kernel_rfl) (fun _ _ _ h => h) (Or.inl ⟨by rfl, fun w9 hS9 => ?_⟩) hHeld ?_
  · obtain ⟨g0, g1, g2, g3, g4, g5, g6, g7, g8, g9, g10, g11, g12, g13, g14, g15, g16, g17, g18, g19, g20, _⟩ := hS9
    go_simp
  simp only [Act.put, List.setIfInBounds_toArray, List.set_cons_zero, List.set_cons_succ]
  refine wpAnyH_take (i := 29) (oi := ⟨some 35, .fieldAddr 26 (.tmp 1) 17, 0, "impl.go:133", #[], none⟩) (v := .pointer (some ⟨H, 20, none⟩)) rfl (by kernel_rfl) (by kernel_rfl) (by kernel_rfl) (fun _ _ _ h => h) (Or.inl ⟨by rfl, fun w9 hS9 => ?_⟩) hHeld ?_
  · obtain ⟨g0, g1, g2, g3, g4, g5, g6, g7, g8, g9, g10, g11, g12, g13, g14, g15, g16, g17, g18, g19, g20, _⟩ := hS9
    go_simp
  simp only [Act.put, List.setIfInBounds_toArray, List.set_cons_zero, List.set_cons_succ]
  refine wpAnyH_take (i := 30) (oi := ⟨some 36, .load 3 (.tmp 35), 3, "impl.go:133", #[⟨29, .data⟩], none⟩) (v := .int .i64 0) rfl (by kernel_rfl) (by kernel_rfl) (by kernel_rfl) (fun _ _ _ h => h) (Or.inl ⟨by rfl, fun w9 hS9 => ?_⟩) hHeld ?_
  · obtain ⟨g0, g1, g2, g3, g4, g5, g6, g7, g8, g9, g10, g11, g12, g13, g14, g15, g16, g17, g18, g19, g20, _⟩ := hS9
    go_simp
  simp only [Act.put, List.setIfInBounds_toArray, List.set_cons_zero, List.set_cons_succ]
  refine wpAnyH_ready (rs := [24]) (by kernel_rfl) (by simp) ?_
  refine AllReadyH.cons (o := ⟨some 30, .call { callee := .value (.func 54), args := #[.tmp 26, .tmp 29], argTypes := #[2, 2] }, 71, "impl.go:135", #[⟨20, .data⟩, ⟨23, .data⟩], none⟩) rfl (fun K9 hK9 => ?_) AllReadyH.nil
  go_simp
  refine (HU _).out.mono ?_
  rintro e wU ⟨rfl, hbo⟩
  refine hK9.out _ _ (IhS.below hHeld HFM.out hbo) (fun hHeld1 => ?_)
  clear hK9 K9
  try simp only [Act.put, List.setIfInBounds_toArray, List.set_cons_zero, List.set_cons_succ]
  refine wpAnyH_ready (rs := [31]) (by kernel_rfl) (by simp) ?_
  refine AllReadyH.cons (o := ⟨some 37, .call { callee := .value (.func 55), args := #[.tmp 36], argTypes := #[3] }, 73, "impl.go:135", #[⟨30, .data⟩, ⟨24, .chain⟩], none⟩) rfl (fun K9 hK9 => ?_) AllReadyH.nil
  go_simp
  refine (implFormat0 _).mono ?_
  rintro e wV ⟨rfl, hwV⟩
  subst hwV
  refine hK9.out _ _ (hHeld1) (fun hHeld2 => ?_)
  clear hK9 K9
  try simp only [Act.put, List.setIfInBounds_toArray, List.set_cons_zero, List.set_cons_succ]
  refine wpAnyH_take (i := 32) (oi := ⟨some 38, .build 75 #[(0, .tmp 7), (1, .tmp 9), (2, .tmp 11), (3, .tmp 13), (4, .tmp 15), (5, .tmp 17), (6, .tmp 19), (7, .tmp 21), (8, .tmp 23), (9, .tmp 30), (12, .tmp 32), (13, .tmp 34), (16, .tmp 37)], 75, "impl.go:133", #[⟨1, .data⟩, ⟨3, .data⟩, ⟨5, .data⟩, ⟨7, .data⟩, ⟨9, .data⟩, ⟨11, .data⟩, ⟨13, .data⟩, ⟨15, .data⟩, ⟨17, .data⟩, ⟨24, .data⟩, ⟨26, .data⟩, ⟨28, .data⟩, ⟨31, .data⟩], none⟩) (v := .agg #[.int .u8 h.ty, .string h.name, .string h.link, .int .i64 h.size, .int .i64 h.mode, .int .i64 h.uid, .int .i64 h.gid, .string h.un, .string h.gn, .int .u64 h.mn, .int .i64 (unx h.ms), .int .u64 0, .int .i64 0, .int .u64 0, .int .i64 0, .int .i64 h.maj, .int .i64 h.min, .map none, .map none, .int .i64 0]) rfl (by kernel_rfl) (by kernel_rfl) (by kernel_rfl) (fun _ _ _ h => h) (Or.inl ⟨by rfl, fun w9 hS9 => ?_⟩) hHeld2 ?_
  · obtain ⟨g0, g1, g2, g3, g4, g5, g6, g7, g8, g9, g10, g11, g12, g13, g14, g15, g16, g17, g18, g19, g20, _⟩ := hS9
    go_simp
  simp only [Act.put, List.setIfInBounds_toArray, List.set_cons_zero, List.set_cons_succ]
  refine wpAnyH_ready (rs := [33]) (by kernel_rfl) (by simp) ?_
  refine AllReadyH.cons (o := ⟨some 39, .box 75 (.tmp 38), 76, "impl.go:133", #[⟨32, .data⟩], none⟩) rfl (fun K9 hK9 => ?_) AllReadyH.nil
  go_simp
  refine hK9.out _ _ (IhS.below hHeld2 HFM.out ((Below.refl _ _).alloc (Nat.le_refl _) _)) (fun hHeld3 => ?_)
  clear hK9 K9
  try simp only [Act.put, List.setIfInBounds_toArray, List.set_cons_zero, List.set_cons_succ]
  refine wpAnyH_take (i := 34) (oi := ⟨some 3, .assign (.tmp 39), 76, "impl.go:133", #[⟨33, .data⟩, ⟨31, .chain⟩, ⟨0, .phase⟩, ⟨1, .phase⟩, ⟨2, .phase⟩, ⟨3, .phase⟩, ⟨4, .phase⟩, ⟨5, .phase⟩, ⟨6, .phase⟩, ⟨7, .phase⟩, ⟨8, .phase⟩, ⟨9, .phase⟩, ⟨10, .phase⟩, ⟨11, .phase⟩, ⟨12, .phase⟩, ⟨13, .phase⟩, ⟨14, .phase⟩, ⟨15, .phase⟩, ⟨16, .phase⟩, ⟨17, .phase⟩, ⟨18, .phase⟩, ⟨19, .phase⟩, ⟨20, .phase⟩, ⟨21, .phase⟩, ⟨22, .phase⟩, ⟨23, .phase⟩, ⟨24, .phase⟩, ⟨25, .phase⟩, ⟨26, .phase⟩, ⟨27, .phase⟩, ⟨28, .phase⟩, ⟨29, .phase⟩, ⟨30, .phase⟩, ⟨31, .phase⟩, ⟨32, .phase⟩, ⟨33, .phase⟩], none⟩) (v := .pointer (some ⟨wU.heap.size, 0, none⟩)) rfl (by kernel_rfl) (by kernel_rfl) (by kernel_rfl) (fun _ _ _ h => h) (Or.inl ⟨by rfl, fun w9 hS9 => ?_⟩) hHeld3 ?_
  · obtain ⟨g0, g1, g2, g3, g4, g5, g6, g7, g8, g9, g10, g11, g12, g13, g14, g15, g16, g17, g18, g19, g20, _⟩ := hS9
    go_simp
  simp only [Act.put, List.setIfInBounds_toArray, List.set_cons_zero, List.set_cons_succ]
  refine wpAnyH_done (by kernel_rfl) ?_ _
  have HQ1 : Hid (HSt h H wU.heap.size (h.tcells (unx h.ms) 0 0 0 0 none) w (wU.alloc (.cells #[.int .u8 h.ty, .string h.name, .string h.link, .int .i64 h.size, .int .i64 h.mode, .int .i64 h.uid, .int .i64 h.gid, .string h.un, .string h.gn, .int .u64 h.mn, .int .i64 (unx h.ms), .int .u64 0, .int .i64 0, .int .u64 0, .int .i64 0, .int .i64 h.maj, .int .i64 h.min, .map none, .map none, .int .i64 0] 75))) := Lib.hid ⟨IhS.blk hHeld3, Blk.new wU 75 (h.tcells (unx h.ms) 0 0 0 0 none), (IhS.blk hHeld1).lt, IhS.bel hHeld3, HH.out⟩
  obtain ⟨Hb, hHb⟩ : ∃ Hb, wU.heap.size = Hb := ⟨_, rfl⟩
  rw [hHb] at HQ1
  rw [hHb]
  clear hHeld hHeld1 hHeld2 hHeld3 hHb hbo HU KS
  have d11 := HQ1.out.arg.cell 11
  obtain ⟨ba, hba⟩ : ∃ ba, h.ha = ba := ⟨_, rfl⟩
  have HBA := Lib.hid hba
  have e11 : h.icells[11]? = some (.bool ba) := by rw [← hba]; rfl
  rw [e11] at d11
  rw [hba] at HUA
  clear hba e11
  obtain ⟨mx, hmx⟩ : ∃ mx, unx h.ms = mx := ⟨_, rfl⟩
  have HMX := Lib.hid hmx
  rw [hmx] at HQ1 d11 ⊢
  generalize wU.alloc (.cells #[.int .u8 h.ty, .string h.name, .string h.link, .int .i64 h.size, .int .i64 h.mode, .int .i64 h.uid, .int .i64 h.gid, .string h.un, .string h.gn, .int .u64 h.mn, .int .i64 mx, .int .u64 0, .int .i64 0, .int .u64 0, .int .i64 0, .int .i64 h.maj, .int .i64 h.min, .map none, .map none, .int .i64 0] 75) = w2 at HQ1 d11 ⊢
  clear hmx
  go_upto_if 41 with fail
  go_cut [] (fun wx => ∃ an ax, Hid (MayT ba h.as_ h.an an ax) ∧ Hid (HSt h H Hb (h.tcells mx an ax 0 0 none) w wx))
  case first =>
    cases ba
    · go_wp2_with fail
      go_meet
      case rel => exact ⟨0, 0, Lib.hid ⟨(fun h => by cases h), (fun _ => ⟨rfl, rfl⟩)⟩, HQ1⟩
    · have d12 : w2.cell? ⟨H, 12, none⟩ = some (.int .i64 h.as_) := HQ1.out.arg.cell 12
      have d13 : w2.cell? ⟨H, 13, none⟩ = some (.int .i64 h.an) := HQ1.out.arg.cell 13
      go_wp2_with (go_at_call 54; refine (HUA.out rfl _).mono ?_; rintro e wA ⟨rfl, hb⟩; have HQ2 := Lib.hid (HQ1.out.below hb); have g11 : wA.cell? ⟨Hb, 11, none⟩ = some (.int .u64 0) := HQ2.out.hd.cell 11; have g12 : wA.cell? ⟨Hb, 12, none⟩ = some (.int .i64 0) := HQ2.out.hd.cell 12; have f11 := HQ2.out.hd.frozen 11; have f12 := HQ2.out.hd.frozen 12; clear hb)
      go_meet
      case rel => exact ⟨h.an, unx h.as_, Lib.hid ⟨(fun _ => ⟨rfl, rfl⟩), (fun h => by cases h)⟩, Lib.hid ((HQ2.out.put 11 (.int .u64 h.an)).put 12 (.int .i64 (unx h.as_)))⟩
  case rest =>
    obtain ⟨an, ax, HA, HQ3⟩ := hcut
    clear HQ1 HUA d11
    have d14 := HQ3.out.arg.cell 14
    obtain ⟨bc, hbc⟩ : ∃ bc, h.hc = bc := ⟨_, rfl⟩
    have HBC := Lib.hid hbc
    have e14 : h.icells[14]? = some (.bool bc) := by rw [← hbc]; rfl
    rw [e14] at d14
    rw [hbc] at HUC
    clear hbc e14
    go_upto_if 53 with fail
    go_cut [] (fun wx => ∃ cn cx, Hid (MayT bc h.cs h.cn cn cx) ∧ Hid (HSt h H Hb (h.tcells mx an ax cn cx none) w wx))
    case first =>
      cases bc
      · go_wp2_with fail
        go_meet
        case rel => exact ⟨0, 0, Lib.hid ⟨(fun h => by cases h), (fun _ => ⟨rfl, rfl⟩)⟩, HQ3⟩
      · have d15 : wc.cell? ⟨H, 15, none⟩ = some (.int .i64 h.cs) := HQ3.out.arg.cell 15
        have d16 : wc.cell? ⟨H, 16, none⟩ = some (.int .i64 h.cn) := HQ3.out.arg.cell 16
        go_wp2_with (go_at_call 54; refine (HUC.out rfl _).mono ?_; rintro e wA ⟨rfl, hb⟩; have HQ4 := Lib.hid (HQ3.out.below hb); have g13 : wA.cell? ⟨Hb, 13, none⟩ = some (.int .u64 0) := HQ4.out.hd.cell 13; have g14 : wA.cell? ⟨Hb, 14, none⟩ = some (.int .i64 0) := HQ4.out.hd.cell 14; have f13 := HQ4.out.hd.frozen 13; have f14 := HQ4.out.hd.frozen 14; clear hb)
        go_meet
        case rel => exact ⟨h.cn, unx h.cs, Lib.hid ⟨(fun _ => ⟨rfl, rfl⟩), (fun h => by cases h)⟩, Lib.hid ((HQ4.out.put 13 (.int .u64 h.cn)).put 14 (.int .i64 (unx h.cs)))⟩
    case rest =>
      obtain ⟨cn, cx, HC, HQ5⟩ := hcut
      clear HQ3 HUC d14
      have d19 : wc.cell? ⟨H, 19, none⟩ = some (.slice h.rA h.rn h.rc) := HQ5.out.arg.cell 19
      obtain ⟨rA, hrA⟩ : ∃ rA, h.rA = rA := ⟨_, rfl⟩
      obtain ⟨n, hn⟩ : ∃ n, h.rn = n := ⟨_, rfl⟩
      obtain ⟨rc, hrc⟩ : ∃ rc, h.rc = rc := ⟨_, rfl⟩
      rw [hrA, hn, hrc] at d19
      have HI19 : Hid (h.icells[19]? = some (.slice rA n rc)) := Lib.hid (by rw [← hrA, ← hn, ← hrc]; rfl)
      rw [hrA] at HRC
      rw [hn] at HL
      clear hrA hn hrc
      by_cases h0 : n = 0
      · have HN0 : Hid (rs = []) := Lib.hid (List.eq_nil_of_length_eq_zero (by rw [HL.out, h0]))
        have z0 : ¬ (0 : Int) < (n : Int) := by omega
        clear h0
        go_wp2_with fail
        go_ret
        exact ⟨Hb, an, ax, cn, cx, none, rfl, by rw [HMX.out]; exact HQ5.out.hd, by have := HQ5.out.lt; have := HQ5.out.eq; omega, by rw [HBA.out]; exact HA.out, by rw [HBC.out]; exact HC.out, .inl ⟨rfl, HN0.out⟩, by have h9 := HQ5.out.bel; exact h9⟩
      · have z0 : (0 : Int) < (n : Int) := by omega
        have z1 : 0 < n := by omega
        have hmm := @run_makeMap Tryz.prog
        have HQ6 : Hid (HSt h H Hb (h.tcells mx an ax cn cx none) w (wc.alloc (.map #[] 0))) := Lib.hid (HQ5.out.alloc _)
        have g18 : (wc.alloc (.map #[] 0)).cell? ⟨Hb, 18, none⟩ = some (.map none) := HQ6.out.hd.cell 18
        have f18 := HQ6.out.hd.frozen 18
        have HbQ : Hid (Hb < wc.heap.size) := Lib.hid HQ5.out.hd.lt
        obtain ⟨Q, hQ⟩ : ∃ Q, wc.heap.size = Q := ⟨_, rfl⟩
        have HQQ := Lib.hid hQ
        have HO0 := Lib.hid (World.ownsMap_made (H := Unit) wc Tryz.prog 9 (plainElem Tryz.prog 9))
        rw [hQ] at HO0
        clear h0
        go_upto_region 8 with fail
        have HQ7 : Hid (HSt h H Hb (h.tcells mx an ax cn cx (some Q)) w ((wc.alloc (.map #[] 0)).setCell ⟨Hb, 18, none⟩ (.map (some Q)))) := Lib.hid (HQ6.out.put 18 (.map (some Q)))
        have HO1 : Hid (((wc.alloc (.map #[] 0)).setCell ⟨Hb, 18, none⟩ (.map (some Q))).ownsMap (H := Unit) Tryz.prog 9 (plainElem Tryz.prog 9) Q 0 (mapOf (rs.take 0))) := Lib.hid (ownsMap_of_far HO0.out ((Far.refl [Hb] _).setCell (.inl (by simp)) _) (by have h1 := HbQ.out; have h2 := HQQ.out; simp; omega))
        have HQB : Hid (Hb < Q ∧ w.heap.size ≤ Q) := Lib.hid (by have h1 := HbQ.out; have h2 := HQQ.out; have h3 := HQ5.out.lt; have h4 := HQ5.out.eq; omega)
        generalize (wc.alloc (.map #[] 0)).setCell ⟨Hb, 18, none⟩ (.map (some Q)) = w3 at HQ7 HO1 ⊢
        clear HQ5 HQ6 HO0 g18 f18 HbQ HQQ hQ d19 hmm
        have d19 : w3.cell? ⟨H, 19, none⟩ = some (.slice rA n rc) := (HQ7.out.arg.cell 19).trans HI19.out
        have hn2 : n ≤ 2147483647 := by have h1 := HFIT.out.1; have h2 := HL.out; omega
        go_wp2
        go_loopw [75] (fun i wr => ∃ k : Nat, k ≤ n ∧ i = .int .i64 k ∧ Hid (HSt h H Hb (h.tcells mx an ax cn cx (some Q)) w wr) ∧ Hid (wr.ownsMap (H := Unit) Tryz.prog 9 (plainElem Tryz.prog 9) Q k (mapOf (rs.take k)))) (fun i _ => n - (intOf i).toNat)
        case atStart => exact ⟨0, by omega, rfl, HQ7, HO1⟩
        case round =>
          obtain ⟨k, hk, rfl, HS, HO⟩ := hrel
          by_cases hlt : k < n
          · have hkl : k < rs.length := by rw [HL.out]; exact hlt
            obtain ⟨b, off, hAe, _, hc1, hc2⟩ := (HRC.out _ HS.out.bel).rec_ (k := k) hkl
            subst hAe
            have HT := Lib.hid (take_rec rs k hkl)
            obtain ⟨z1, z2⟩ := HFIT.out.2 k hkl
            obtain ⟨X, hX⟩ : ∃ X, rk rs k = X := ⟨_, rfl⟩
            obtain ⟨Y, hY⟩ : ∃ Y, rv rs k = Y := ⟨_, rfl⟩
            rw [hX] at HT z1 hc1
            rw [hY] at HT z2 hc2
            have HS5 : Hid (HSt h H Hb (h.tcells mx an ax cn cx (some Q)) w (wr.alloc (.cells #[.string X, .string Y] 83)).drew) := Lib.hid (HS.out.alloc _).drew
            have HO5 : Hid ((wr.alloc (.cells #[.string X, .string Y] 83)).drew.ownsMap (H := Unit) Tryz.prog 9 (plainElem Tryz.prog 9) Q k (mapOf (rs.take k))) := Lib.hid (ownsMap_of_far HO.out ((Far.refl [] _).alloc _).drew (by simp))
            have HB5 : Hid (Blk (wr.alloc (.cells #[.string X, .string Y] 83)).drew wr.heap.size 83 [.string X, .string Y]) := Lib.hid (Blk.new wr _ [_, _])
            obtain ⟨w6, hrun6, ho6, hg6⟩ := HO5.out.update strKeyed Tryz.underlying72 (by unfold maxLen; omega) (keyOf_string_mk Tryz.underlying9 (s := X) (by unfold maxLen; omega)) (plainElem_string (H := Unit) Tryz.underlying9 (s := Y) (by unfold maxLen; omega))
            have HS6 := Lib.hid (HS5.out.grown hg6 HQB.out.1)
            have HO6 : Hid (w6.ownsMap (H := Unit) Tryz.prog 9 (plainElem Tryz.prog 9) Q (k + 1) (mapOf (rs.take (k + 1)))) := Lib.hid (by rw [HT.out, mapOf_snoc]; exact ho6)
            have q0 := HB5.out.cell 0
            have q1 := HB5.out.cell 1
            have q2 : (wr.alloc (.cells #[.string X, .string Y] 83)).drew.cell? ⟨Hb, 18, none⟩ = some (.map (some Q)) := HS5.out.hd.cell 18
            have q3 : w6.cell? ⟨Hb, 18, none⟩ = some (.map (some Q)) := HS6.out.hd.cell 18
            have HB6 := Lib.hid (HB5.out.grown hg6 (by intro e; injection e with e; have h1 := HO.out.lt; omega))
            have q4 := HB6.out.cell 0
            have q5 := HB6.out.cell 1
            clear hX hY ho6 hg6 HT hkl
            go_wp2_with fail
            go_region_held3 (fun w' => w'.cell? ⟨Hb, 18, none⟩ = some (.map (some Q)) ∧ w'.cell? ⟨wr.heap.size, 0, none⟩ = some (.string X) ∧ w'.cell? ⟨wr.heap.size, 1, none⟩ = some (.string Y)) (first | exact ⟨q2, q0, q1⟩ | exact ⟨q3, q4, q5⟩ | assumption) (fail)
            go_wp2
            go_roundw
            case rel => exact ⟨k + 1, by omega, by go_num, HS6, HO6⟩
            case measure => simp [intOf]; omega
          · obtain rfl : k = n := by omega
            have HO2 : Hid (wr.ownsMap (H := Unit) Tryz.prog 9 (plainElem Tryz.prog 9) Q rs.length (mapOf rs)) := Lib.hid (by have h9 := HO.out; rw [List.take_of_length_le (by rw [HL.out]; exact Nat.le_refl _)] at h9; rw [HL.out]; exact h9)
            go_wp2
            go_ret
            exact ⟨Hb, an, ax, cn, cx, some Q, rfl, by rw [HMX.out]; exact HS.out.hd, by have := HS.out.lt; have := HS.out.eq; omega, by rw [HBA.out]; exact HA.out, by rw [HBC.out]; exact HC.out, .inr ⟨Q, rfl, HQB.out.2, by rw [HL.out]; omega, HO2.out⟩, HS.out.bel⟩
end Go.Proofs.YtepeehjajhehfaaGreatDoor
