/- laws.FnBlockFormat: its walk. -/
import Derived.Test.YtepeehjajhehfaaGreatDoorMA
import Derived.Test.YtepeehjajhehfaaGreatDoorBlkB
import Derived.Test.YtepeehjajhehfaaGreatDoorFmtO
namespace Go.Proofs.YtepeehjajhehfaaGreatDoor
open Go.RowKit Go.PlainAid
set_option linter.unusedVariables false

/-- spec.Can answers, whatever it answers. -/
def CanAny (f : Int) : Prop := ∀ (h : Hd) (w : World), h.rn = 0 → h.rA = none → h.Ok → h.name.size ≤ 2147483647 → Calls Tryz.prog 7 #[h.val, .int .i64 f] w (fun e w' => ∃ v, e = .returned (.int .i64 v) ∧ Below w.heap.size w w')
/-- A header without its records. -/
def Hd.bare (h : Hd) : Hd := { h with rA := none, rn := 0, rc := 0 }
theorem Hd.Ok.bare {h : Hd} (k : h.Ok) : h.bare.Ok := ⟨k.ty, k.size, k.mode, k.uid, k.gid, k.ms, k.mn, k.as_, k.an, k.cs, k.cn, k.maj, k.min, k.fm, k.name, k.link, k.un, k.gn⟩
def TrueP (w : World) (e : Ending) (w' : World) : Prop := e = .returned (.bool true) ∧ Below w.heap.size w w'
theorem wpList_load_roww {P : Program} {ops : Array Oper} {rest : List Oper} {o : Oper} {a : Act} {w : World} {Q : Exit → Act → World → Prop} (hw : Region.wanted o (yielded ops a.tmps) = true) (ty : TypeId) (x : Operand) (ho : o.op = .load ty x)
    (g : Nat) (hx : a.eval x = .pointer (some ⟨g, 0, none⟩)) (t : TypeId) (cs : Array Value) (fr : Nat × Nat) (d : TypeDesc) (hg : w.heap[g]? = some (.cells cs t fr))
    (hu : P.underlying ty = some d) (hd : (match d with | .struct _ | .array _ _ => true | _ => false) = true) (hi : (P.info? ty).map (·.size) = some cs.size)
    (h : wpList P ops Q rest (a.put o.dst (.agg cs)) w) : wpList P ops Q (o :: rest) a w :=
  BigFrame.wpList_want hw fun _ hK => wp_load_row ty x ho g hx t cs fr d hg hu hd hi (hK _ _ h)
theorem tell_byte (P : List UInt8) (hl : P.length = 512) (p : Nat) (hp : p < 512) (c : Int) (hc0 : 0 ≤ c) (hc1 : c ≤ 255) (hcz : c ≠ 0) (hout : ¬ (148 ≤ p ∧ p < 156)) :
    ∃ v : UInt8, bits .xor .u8 (byt P p) c = (v.toNat : Int) ∧ SU (P.set p v) ≠ SU P := by
  obtain ⟨v, h1, _, h2⟩ := tell_plain P hl p hp c hc0 hc1 hcz
  exact ⟨v, h1, (h2 hout).1⟩
set_option maxRecDepth 20000 in
set_option maxHeartbeats 1600000 in
theorem bf0 (h : Hd) (rs : List (ByteArray × ByteArray)) (A : Option Addr) (n c : Nat) (ns : List Int) (place ch : Int) (w : World) (kin : h.In) (hfm : h.fm ≠ 1 ∧ h.fm ≠ 3) (hl : rs.length = h.rn) (hr : RC w w.heap.size h.rA (recsV rs)) (hrn : h.rn ≤ 9223372036854775807) (hcl : ns.length = n) (hcr : RC w w.heap.size A (nums ns)) (hcc : n ≤ c) (hcs : Small ns) (hcn : n ≤ 9223372036854775807) (hp0 : -9223372036854775808 ≤ place) (hp1 : place ≤ 9223372036854775807) (hc0 : 0 ≤ ch) (hc1 : ch ≤ 255) (hE : Errs3 w) :
    Calls Tryz.prog 3 #[h.ival, .slice A n c, .int .i64 place, .int .u8 ch] w (TrueP w) := by
  have HB0 : Hid (Blk (w.alloc (.cells h.iarr 26)) w.heap.size 26 h.icells) := Lib.hid (h.iblk w _)
  have HW0 : Hid (Below w.heap.size w (w.alloc (.cells h.iarr 26))) := Lib.hid ((Below.refl _ _).alloc (Nat.le_refl _) _)
  have HFT : Hid (∀ w1, Below w.heap.size w w1 → Calls Tryz.prog 5 #[.agg h.iarr] w1 (Fits3P h rs w1)) := Lib.hid (fun w1 hb => fits3 h w.heap.size rs w1 hl (hr.below hb) hb.size hrn)
  have HPL : Hid (∀ w1, Below w.heap.size w w1 → h.rn ≤ 2147483647 → Calls Tryz.prog 6 #[.agg h.iarr] w1 (PlainP h rs w1)) := Lib.hid (fun w1 hb hn => lawPlain h w.heap.size rs w1 hl (hr.below hb) hb.size hn)
  have HK := Lib.hid kin
  have HE0 := Lib.hid hE
  have HFM := Lib.hid hfm
  have HRL := Lib.hid hl
  have HCL := Lib.hid hcl
  have HCR := Lib.hid hcr
  have HCC := Lib.hid hcc
  have HCS := Lib.hid hcs
  have HZN : ∀ w3 : World, Hid (Blk (w3.alloc (.cells #[.int .u8 0, .string { data := #[] }, .string { data := #[] }, .int .i64 0, .int .i64 0, .int .i64 0, .int .i64 0, .string { data := #[] }, .string { data := #[] }, .int .i64 0, .int .i64 0, .bool false, .bool false, .int .i64 0, .int .i64 0, .int .i64 0, .int .i64 0, .int .i64 0, .int .i64 0, .slice none 0 0, .int .i64 0] 32)) w3.heap.size 32 hd0.cells) := fun w3 : World => Lib.hid (Blk.new w3 32 hd0.cells)
  unfold Hd.ival
  clear kin hE hfm hl hr hrn hcl hcr hcc hcs
  go_enter Tryz.func3, Tryz.ntmps3
  go_upto_region 1 with fail
  generalize w.alloc (.cells h.iarr 26) = w1 at HB0 HW0 ⊢
  obtain ⟨H, hH⟩ : ∃ H, w.heap.size = H := ⟨_, rfl⟩
  rw [hH] at HB0
  rw [hH]
  have HH := Lib.hid hH
  clear hH
  go_wp2_with (refine wpList_load_row (o := ⟨some 11, _, _, _, _, _⟩) rfl 26 (.tmp 4) rfl H rfl 26 h.iarr (0, 0) _ HB0.out Tryz.underlying26 rfl h.isize_ ?_)
  refine (HFT.out w1 HW0.out).mono ?_
  rintro e w2 ⟨b, rfl, hb, hw⟩
  have HB2 := Lib.hid (HB0.out.below hw HB0.out.lt)
  have HW2 : Hid (Below w.heap.size w w2) := Lib.hid (HW0.out.trans (hw.mono HW0.out.size))
  cases b with
  | false =>
    clear hb hw
    go_wp2
    go_ret
    exact ⟨rfl, HW2.out⟩
  | true =>
  have HFI := Lib.hid (hb rfl)
  clear hb hw
  by_cases hbig : 2147483647 < n
  · have hbig' : (2147483647 : Int) < (n : Int) := by omega
    go_wp2
    go_ret
    exact ⟨rfl, HW2.out⟩
  have hbig' : ¬ (2147483647 : Int) < (n : Int) := by omega
  go_wp2_with (refine wpList_load_row (o := ⟨some 19, _, _, _, _, _⟩) rfl 26 (.tmp 4) rfl H rfl 26 h.iarr (0, 0) _ HB2.out Tryz.underlying26 rfl h.isize_ ?_)
  refine (HPL.out w2 HW2.out (by have h5 := HFI.out.2.2.2.2.1; have h6 := HRL.out; omega)).mono ?_
  rintro e w3 ⟨RA, rc, rfl, _, hw3⟩
  have HW3 : Hid (Below w.heap.size w w3) := Lib.hid (HW2.out.trans (hw3.mono HW2.out.size))
  clear hw3 HB2 HW2 HB0 HW0 HPL HFT
  go_upto_region 4 with (refine wpList_store_row (o := ⟨none, _, _, _, _, _⟩) rfl 32 (.tmp 9) (.tmp 20) rfl w3.heap.size ({ h with rA := RA, rc := rc } : Hd).arr rfl rfl 32 hd0.arr (HZN w3).out ({ h with rA := RA, rc := rc } : Hd).size_ rfl ({ h with rA := RA, rc := rc } : Hd).one_ ?_; have HB4 : Hid (Blk ((w3.alloc (.cells #[.int .u8 0, .string { data := #[] }, .string { data := #[] }, .int .i64 0, .int .i64 0, .int .i64 0, .int .i64 0, .string { data := #[] }, .string { data := #[] }, .int .i64 0, .int .i64 0, .bool false, .bool false, .int .i64 0, .int .i64 0, .int .i64 0, .int .i64 0, .int .i64 0, .int .i64 0, .slice none 0 0, .int .i64 0] 32)).setRow w3.heap.size ({ h with rA := RA, rc := rc } : Hd).arr) w3.heap.size 32 ({ h with rA := RA, rc := rc } : Hd).cells) := Lib.hid (setRow_blk _ _ _ hd0.cells _ (HZN w3).out); have HW4 : Hid (Below w.heap.size w ((w3.alloc (.cells #[.int .u8 0, .string { data := #[] }, .string { data := #[] }, .int .i64 0, .int .i64 0, .int .i64 0, .int .i64 0, .string { data := #[] }, .string { data := #[] }, .int .i64 0, .int .i64 0, .bool false, .bool false, .int .i64 0, .int .i64 0, .int .i64 0, .int .i64 0, .int .i64 0, .int .i64 0, .slice none 0 0, .int .i64 0] 32)).setRow w3.heap.size ({ h with rA := RA, rc := rc } : Hd).arr)) := Lib.hid ((HW3.out.alloc HW3.out.size _).grown (setRow_grown _ _ _) (by have := HW3.out.size; simp; omega) (fun q hq => by cases hq; exact HW3.out.size)); generalize (w3.alloc (.cells #[.int .u8 0, .string { data := #[] }, .string { data := #[] }, .int .i64 0, .int .i64 0, .int .i64 0, .int .i64 0, .string { data := #[] }, .string { data := #[] }, .int .i64 0, .int .i64 0, .bool false, .bool false, .int .i64 0, .int .i64 0, .int .i64 0, .int .i64 0, .int .i64 0, .int .i64 0, .slice none 0 0, .int .i64 0] 32)).setRow w3.heap.size ({ h with rA := RA, rc := rc } : Hd).arr = w4 at HB4 HW4 ⊢; simp only [Act.put])
  obtain ⟨X, hX⟩ : ∃ X, w3.heap.size = X := ⟨_, rfl⟩
  rw [hX] at HB4
  rw [hX]
  have HXW : Hid (w.heap.size ≤ X) := Lib.hid (by rw [← hX]; exact HW3.out.size)
  clear hX HZN
  have k19 : w4.cell? ⟨X, 19, none⟩ = some (.slice RA h.rn rc) := HB4.out.cell 19
  have f19 := HB4.out.frozen 19
  have HB5 : Hid (Blk (w4.setCell ⟨X, 19, none⟩ (.slice none 0 0)) X 32 h.bare.cells) := Lib.hid (HB4.out.set_ 19 (.slice none 0 0))
  have HW5 := Lib.hid (HW4.out.setCell (p := ⟨X, 19, none⟩) HXW.out (.slice none 0 0))
  go_upto_region 5 with fail
  clear k19 f19
  generalize w4.setCell ⟨X, 19, none⟩ (.slice none 0 0) = w5 at HB5 HW5 ⊢
  clear HB4 HW4 HW3
  obtain ⟨fm, hfm⟩ : ∃ x, h.fm = x := ⟨_, rfl⟩
  have k20 : w5.cell? ⟨X, 20, none⟩ = some (.int .i64 fm) := by rw [← hfm]; exact HB5.out.cell 20
  obtain ⟨n1, n3⟩ := HFM.out
  rw [hfm] at n1 n3
  have n1' : (fm == 1) = false := by simpa using n1
  have n1b : (fm != 1) = true := by unfold bne; rw [n1']; rfl
  have n3' : (fm == 3) = false := by simpa using n3
  have n3b : (fm != 3) = true := by unfold bne; rw [n3']; rfl
  clear hfm
  go_wp2
  go_ret
  exact ⟨rfl, HW5.out⟩
set_option maxRecDepth 20000 in
set_option maxHeartbeats 1600000 in
theorem bf1 (C : CanAny 1) (h : Hd) (rs : List (ByteArray × ByteArray)) (A : Option Addr) (n c : Nat) (ns : List Int) (place ch : Int) (w : World) (kin : h.In) (hfm : h.fm = 1) (hl : rs.length = h.rn) (hr : RC w w.heap.size h.rA (recsV rs)) (hrn : h.rn ≤ 9223372036854775807) (hcl : ns.length = n) (hcr : RC w w.heap.size A (nums ns)) (hcc : n ≤ c) (hcs : Small ns) (hcn : n ≤ 9223372036854775807) (hp0 : -9223372036854775808 ≤ place) (hp1 : place ≤ 9223372036854775807) (hc0 : 0 ≤ ch) (hc1 : ch ≤ 255) (hE : Errs3 w) :
    Calls Tryz.prog 3 #[h.ival, .slice A n c, .int .i64 place, .int .u8 ch] w (TrueP w) := by
  have HB0 : Hid (Blk (w.alloc (.cells h.iarr 26)) w.heap.size 26 h.icells) := Lib.hid (h.iblk w _)
  have HW0 : Hid (Below w.heap.size w (w.alloc (.cells h.iarr 26))) := Lib.hid ((Below.refl _ _).alloc (Nat.le_refl _) _)
  have HFT : Hid (∀ w1, Below w.heap.size w w1 → Calls Tryz.prog 5 #[.agg h.iarr] w1 (Fits3P h rs w1)) := Lib.hid (fun w1 hb => fits3 h w.heap.size rs w1 hl (hr.below hb) hb.size hrn)
  have HPL : Hid (∀ w1, Below w.heap.size w w1 → h.rn ≤ 2147483647 → Calls Tryz.prog 6 #[.agg h.iarr] w1 (PlainP h rs w1)) := Lib.hid (fun w1 hb hn => lawPlain h w.heap.size rs w1 hl (hr.below hb) hb.size hn)
  have HK := Lib.hid kin
  have HE0 := Lib.hid hE
  have HFM := Lib.hid hfm
  have HRL := Lib.hid hl
  have HCL := Lib.hid hcl
  have HCR := Lib.hid hcr
  have HCC := Lib.hid hcc
  have HCS := Lib.hid hcs
  have HZN : ∀ w3 : World, Hid (Blk (w3.alloc (.cells #[.int .u8 0, .string { data := #[] }, .string { data := #[] }, .int .i64 0, .int .i64 0, .int .i64 0, .int .i64 0, .string { data := #[] }, .string { data := #[] }, .int .i64 0, .int .i64 0, .bool false, .bool false, .int .i64 0, .int .i64 0, .int .i64 0, .int .i64 0, .int .i64 0, .int .i64 0, .slice none 0 0, .int .i64 0] 32)) w3.heap.size 32 hd0.cells) := fun w3 : World => Lib.hid (Blk.new w3 32 hd0.cells)
  unfold Hd.ival
  clear kin hE hfm hl hr hrn hcl hcr hcc hcs
  go_enter Tryz.func3, Tryz.ntmps3
  go_upto_region 1 with fail
  generalize w.alloc (.cells h.iarr 26) = w1 at HB0 HW0 ⊢
  obtain ⟨H, hH⟩ : ∃ H, w.heap.size = H := ⟨_, rfl⟩
  rw [hH] at HB0
  rw [hH]
  have HH := Lib.hid hH
  clear hH
  go_wp2_with (refine wpList_load_row (o := ⟨some 11, _, _, _, _, _⟩) rfl 26 (.tmp 4) rfl H rfl 26 h.iarr (0, 0) _ HB0.out Tryz.underlying26 rfl h.isize_ ?_)
  refine (HFT.out w1 HW0.out).mono ?_
  rintro e w2 ⟨b, rfl, hb, hw⟩
  have HB2 := Lib.hid (HB0.out.below hw HB0.out.lt)
  have HW2 : Hid (Below w.heap.size w w2) := Lib.hid (HW0.out.trans (hw.mono HW0.out.size))
  cases b with
  | false =>
    clear hb hw
    go_wp2
    go_ret
    exact ⟨rfl, HW2.out⟩
  | true =>
  have HFI := Lib.hid (hb rfl)
  clear hb hw
  by_cases hbig : 2147483647 < n
  · have hbig' : (2147483647 : Int) < (n : Int) := by omega
    go_wp2
    go_ret
    exact ⟨rfl, HW2.out⟩
  have hbig' : ¬ (2147483647 : Int) < (n : Int) := by omega
  go_wp2_with (refine wpList_load_row (o := ⟨some 19, _, _, _, _, _⟩) rfl 26 (.tmp 4) rfl H rfl 26 h.iarr (0, 0) _ HB2.out Tryz.underlying26 rfl h.isize_ ?_)
  refine (HPL.out w2 HW2.out (by have h5 := HFI.out.2.2.2.2.1; have h6 := HRL.out; omega)).mono ?_
  rintro e w3 ⟨RA, rc, rfl, _, hw3⟩
  have HW3 : Hid (Below w.heap.size w w3) := Lib.hid (HW2.out.trans (hw3.mono HW2.out.size))
  clear hw3 HB2 HW2 HB0 HW0 HPL HFT
  go_upto_region 4 with (refine wpList_store_row (o := ⟨none, _, _, _, _, _⟩) rfl 32 (.tmp 9) (.tmp 20) rfl w3.heap.size ({ h with rA := RA, rc := rc } : Hd).arr rfl rfl 32 hd0.arr (HZN w3).out ({ h with rA := RA, rc := rc } : Hd).size_ rfl ({ h with rA := RA, rc := rc } : Hd).one_ ?_; have HB4 : Hid (Blk ((w3.alloc (.cells #[.int .u8 0, .string { data := #[] }, .string { data := #[] }, .int .i64 0, .int .i64 0, .int .i64 0, .int .i64 0, .string { data := #[] }, .string { data := #[] }, .int .i64 0, .int .i64 0, .bool false, .bool false, .int .i64 0, .int .i64 0, .int .i64 0, .int .i64 0, .int .i64 0, .int .i64 0, .slice none 0 0, .int .i64 0] 32)).setRow w3.heap.size ({ h with rA := RA, rc := rc } : Hd).arr) w3.heap.size 32 ({ h with rA := RA, rc := rc } : Hd).cells) := Lib.hid (setRow_blk _ _ _ hd0.cells _ (HZN w3).out); have HW4 : Hid (Below w.heap.size w ((w3.alloc (.cells #[.int .u8 0, .string { data := #[] }, .string { data := #[] }, .int .i64 0, .int .i64 0, .int .i64 0, .int .i64 0, .string { data := #[] }, .string { data := #[] }, .int .i64 0, .int .i64 0, .bool false, .bool false, .int .i64 0, .int .i64 0, .int .i64 0, .int .i64 0, .int .i64 0, .int .i64 0, .slice none 0 0, .int .i64 0] 32)).setRow w3.heap.size ({ h with rA := RA, rc := rc } : Hd).arr)) := Lib.hid ((HW3.out.alloc HW3.out.size _).grown (setRow_grown _ _ _) (by have := HW3.out.size; simp; omega) (fun q hq => by cases hq; exact HW3.out.size)); generalize (w3.alloc (.cells #[.int .u8 0, .string { data := #[] }, .string { data := #[] }, .int .i64 0, .int .i64 0, .int .i64 0, .int .i64 0, .string { data := #[] }, .string { data := #[] }, .int .i64 0, .int .i64 0, .bool false, .bool false, .int .i64 0, .int .i64 0, .int .i64 0, .int .i64 0, .int .i64 0, .int .i64 0, .slice none 0 0, .int .i64 0] 32)).setRow w3.heap.size ({ h with rA := RA, rc := rc } : Hd).arr = w4 at HB4 HW4 ⊢; simp only [Act.put])
  obtain ⟨X, hX⟩ : ∃ X, w3.heap.size = X := ⟨_, rfl⟩
  rw [hX] at HB4
  rw [hX]
  have HXW : Hid (w.heap.size ≤ X) := Lib.hid (by rw [← hX]; exact HW3.out.size)
  clear hX HZN
  have k19 : w4.cell? ⟨X, 19, none⟩ = some (.slice RA h.rn rc) := HB4.out.cell 19
  have f19 := HB4.out.frozen 19
  have HB5 : Hid (Blk (w4.setCell ⟨X, 19, none⟩ (.slice none 0 0)) X 32 h.bare.cells) := Lib.hid (HB4.out.set_ 19 (.slice none 0 0))
  have HW5 := Lib.hid (HW4.out.setCell (p := ⟨X, 19, none⟩) HXW.out (.slice none 0 0))
  go_upto_region 5 with fail
  clear k19 f19
  generalize w4.setCell ⟨X, 19, none⟩ (.slice none 0 0) = w5 at HB5 HW5 ⊢
  clear HB4 HW4 HW3
  have k20 : w5.cell? ⟨X, 20, none⟩ = some (.int .i64 1) := by rw [← HFM.out]; exact HB5.out.cell 20
  go_wp2_with (refine wpList_load_roww (o := ⟨some 31, _, _, _, _, _⟩) (by rfl) 32 (.tmp 9) rfl X rfl 32 h.bare.arr (0, 0) _ HB5.out Tryz.underlying32 rfl h.bare.size_ ?_)
  refine (C h.bare w5 rfl rfl (HK.out.ok HFI.out).bare (by have h1 := HFI.out.1; exact h1)).mono ?_
  rintro e w6 ⟨v, rfl, hb6⟩
  have HB6 := Lib.hid (HB5.out.below hb6 HB5.out.lt)
  have HW6 : Hid (Below w.heap.size w w6) := Lib.hid (HW5.out.trans (hb6.mono HW5.out.size))
  clear hb6 k20 HB5 HW5
  by_cases hv : v = 1
  case neg =>
    have hv' : (v == 1) = false := by simpa using hv
    have hvb : (v != 1) = true := by unfold bne; rw [hv']; rfl
    go_wp2
    go_ret
    exact ⟨rfl, HW6.out⟩
  case pos =>
  subst hv
  have k20 : w6.cell? ⟨X, 20, none⟩ = some (.int .i64 1) := by rw [← HFM.out]; exact HB6.out.cell 20
  have k1 : w6.cell? ⟨X, 1, none⟩ = some (.string h.name) := HB6.out.cell 1
  have k2 : w6.cell? ⟨X, 2, none⟩ = some (.string h.link) := HB6.out.cell 2
  by_cases s1 : (100 : Int) < (h.name.size : Int)
  · go_wp2
    go_ret
    exact ⟨rfl, HW6.out⟩
  by_cases s2 : (100 : Int) < (h.link.size : Int)
  · go_wp2
    go_ret
    exact ⟨rfl, HW6.out⟩
  have HS1 : Hid (h.name.size ≤ 100) := Lib.hid (by omega)
  go_wp2_with (refine wpList_load_row (o := ⟨some 49, _, _, _, _, _⟩) rfl 32 (.tmp 9) rfl X rfl 32 h.bare.arr (0, 0) _ HB6.out Tryz.underlying32 rfl h.bare.size_ ?_)
  refine (specBlock false h.bare A n c ns w6 (HK.out.ok HFI.out).bare HS1.out HFM.out HCL.out (by omega) HCC.out ((HCR.out.below HW6.out).more HW6.out.size) HCS.out).mono ?_
  rintro e w7 ⟨g, bs, hg, rfl, hok, hbl, hb, hw⟩
  have HB7 := Lib.hid (HB6.out.below hw HB6.out.lt)
  have HW7 : Hid (Below w.heap.size w w7) := Lib.hid (HW6.out.trans (hw.mono HW6.out.size))
  have HOK := Lib.hid hok
  have HBL := Lib.hid hbl
  have HG := Lib.hid hb
  have HGX : Hid (w.heap.size ≤ g) := Lib.hid (Nat.le_trans HW6.out.size hg)
  clear hok hbl hb hw hg k20 k1 k2 s1 s2 HB6
  have k20 : w7.cell? ⟨X, 20, none⟩ = some (.int .i64 1) := by rw [← HFM.out]; exact HB7.out.cell 20
  have HFO : Hid (∀ w8, Below w7.heap.size w7 w8 → Calls Tryz.prog 9 #[.slice (some ⟨g, 0, none⟩) 512 512] w8 fun e w' => e = .returned (.int .i64 1) ∧ Below w8.heap.size w8 w') := Lib.hid (fun w8 hb8 => by
    obtain ⟨cs, t, D, e1, e2, e3, e4, e5, e6, hmg, hzt⟩ := HOK.out
    have hB8 := HG.out.below hb8 HG.out.lt
    exact formatOf_ustar _ _ (g + 1) bs w8 HBL.out (RB.of_blk hB8) hB8.lt HOK.out.yes hmg hzt (HE0.out.below (HW7.out.trans (hb8.mono HW7.out.size))))
  have KS : Hid (∀ w', Below w7.heap.size w7 w' → w'.cell? ⟨X, 20, none⟩ = some (.int .i64 1) ∧ Below w7.heap.size w7 w') := Lib.hid (fun w' hb => by
    have hB := HB7.out.below hb HB7.out.lt
    exact ⟨by rw [← HFM.out]; exact hB.cell 20, hb⟩)
  have KB : Hid (∀ w' w'', (w'.cell? ⟨X, 20, none⟩ = some (.int .i64 1) ∧ Below w7.heap.size w7 w') → Below w'.heap.size w' w'' → _) := Lib.hid (fun w' w'' h hb => KS.out w'' (h.2.trans (hb.mono h.2.size)))
  have KX : Hid (∀ w', (w'.cell? ⟨X, 20, none⟩ = some (.int .i64 1) ∧ Below w7.heap.size w7 w') → Below w7.heap.size w7 w') := Lib.hid (fun w' h => h.2)
  go_upto_region 8 with fail
  go_cut [56] (fun v wx => v = .bool false ∧ Hid (Below w7.heap.size w7 wx))
  case first => as_aux_lemma =>
    go_region_held3 (fun w' => w'.cell? ⟨X, 20, none⟩ = some (.int .i64 1) ∧ Below w7.heap.size w7 w') (first | exact KS.out _ ((Below.refl _ w7).drew) | assumption | exact KB.out _ _ (by assumption) hbo)
      (first
      | (go_at_call 9; refine (HFO.out _ (KX.out _ (by assumption))).mono ?_; rintro e w' ⟨rfl, hbo⟩))
    go_wp2_with fail
    go_meet
    case rel => exact ⟨rfl, Lib.hid (KX.out _ (by assumption))⟩
  case rest =>
  obtain ⟨rfl, HXN⟩ := hcut
  clear KS KB KX HFO k20
  obtain ⟨w8, hw8⟩ : ∃ w5, w5 = wc := ⟨_, rfl⟩
  subst hw8
  have HG8 := Lib.hid (HG.out.below HXN.out HG.out.lt)
  have HW8 : Hid (Below w.heap.size w w8) := Lib.hid (HW7.out.trans (HXN.out.mono HW7.out.size))
  clear HB7 HG HXN HW7
  obtain ⟨q, hq, hq5⟩ : ∃ q : Nat, place % 504 = (q : Int) ∧ q < 504 := ⟨(place % 504).toNat, by omega, by omega⟩
  have HQ := Lib.hid hq
  clear hq
  obtain ⟨p, hp, hp5, hpo⟩ : ∃ p : Nat, (p = if 148 ≤ q then q + 8 else q) ∧ p < 512 ∧ ¬ (148 ≤ p ∧ p < 156) := by
    by_cases hq8 : 148 ≤ q
    · exact ⟨q + 8, by rw [if_pos hq8], by omega, by omega⟩
    · exact ⟨q, by rw [if_neg hq8], by omega, by omega⟩
  have HPO := Lib.hid hpo
  have HP5 := Lib.hid hp5
  have HPE := Lib.hid hp
  clear hpo hp
  have hcell : w8.cell? ⟨g, p, none⟩ = some (.int .u8 (byt bs p)) := by rw [HG8.out.cell, bys_get _ _ (by rw [HBL.out]; exact hp5)]
  have hfr : w8.frozen? ⟨g, p, none⟩ = false := HG8.out.frozen p
  go_upto_region 11 with (go_at_call 10; refine (below_any _ _ _ hp0 hp1 (by omega) (by omega)).mono ?_; rw [HQ.out]; rintro e w' ⟨rfl, rfl⟩)
  go_upto_if 60 with fail
  go_cut [2] (fun v wx => v = .int .i64 p ∧ Hid (w8 = wx))
  case first => as_aux_lemma =>
    by_cases hq8 : 148 ≤ q
    · have hq8' : (148 : Int) ≤ (q : Int) := by omega
      have HPQ : Hid ((p : Int) = (q : Int) + 8) := Lib.hid (by rw [HPE.out, if_pos hq8]; omega)
      clear hcell hfr
      go_wp2
      go_meet
      case rel => exact ⟨by rw [HPQ.out], Lib.hid rfl⟩
    · have hq8' : ¬ (148 : Int) ≤ (q : Int) := by omega
      have HPQ : Hid ((p : Int) = (q : Int)) := Lib.hid (by rw [HPE.out, if_neg hq8])
      clear hcell hfr
      go_wp2
      go_meet
      case rel => exact ⟨by rw [HPQ.out], Lib.hid rfl⟩
  case rest =>
  obtain ⟨rfl, hw⟩ := hcut
  have hw' := hw.out
  clear hw
  subst hw'
  clear hq5 HQ HPE hbig' HH
  by_cases hcz : ch = 0
  · subst hcz
    go_wp2
    go_ret
    exact ⟨rfl, HW8.out.setCell (p := ⟨g, p, none⟩) HGX.out _⟩
  have hcz' : (ch == 0) = false := by simpa using hcz
  obtain ⟨v, hv, hne⟩ := tell_byte bs HBL.out p HP5.out ch hc0 hc1 hcz HPO.out
  have HNE := Lib.hid hne
  have HB9 : Hid (Blk (w8.setCell ⟨g, p, none⟩ (.int .u8 (v.toNat : Int))) g 5 (bys (bs.set p v))) := Lib.hid (by rw [← bys_set]; exact HG8.out.set_ p _)
  have HW9 := Lib.hid (HW8.out.setCell (p := ⟨g, p, none⟩) HGX.out (.int .u8 (v.toNat : Int)))
  have HFO : Hid (Calls Tryz.prog 9 #[.slice (some ⟨g, 0, none⟩) 512 512] (w8.setCell ⟨g, p, none⟩ (.int .u8 (v.toNat : Int))) fun e w' => e = .returned (.int .i64 0) ∧ Below (w8.setCell ⟨g, p, none⟩ (.int .u8 (v.toNat : Int))).heap.size (w8.setCell ⟨g, p, none⟩ (.int .u8 (v.toNat : Int))) w') := Lib.hid (
    formatOf_no _ _ (g + 1) (bs.set p v) _ (by rw [List.length_set]; exact HBL.out) (RB.of_blk HB9.out) HB9.out.lt (HOK.out.no HBL.out HP5.out HPO.out HNE.out) (HE0.out.below HW9.out))
  clear hne hcz
  go_wp2_with fail
  refine HFO.out.mono ?_
  rintro e w' ⟨rfl, hb9⟩
  have HWX := Lib.hid (HW9.out.trans (hb9.mono HW9.out.size))
  clear hb9
  go_wp2
  go_ret
  exact ⟨rfl, HWX.out⟩
set_option maxRecDepth 20000 in
set_option maxHeartbeats 1600000 in
theorem bf3 (C : CanAny 3) (h : Hd) (rs : List (ByteArray × ByteArray)) (A : Option Addr) (n c : Nat) (ns : List Int) (place ch : Int) (w : World) (kin : h.In) (hfm : h.fm = 3) (hl : rs.length = h.rn) (hr : RC w w.heap.size h.rA (recsV rs)) (hrn : h.rn ≤ 9223372036854775807) (hcl : ns.length = n) (hcr : RC w w.heap.size A (nums ns)) (hcc : n ≤ c) (hcs : Small ns) (hcn : n ≤ 9223372036854775807) (hp0 : -9223372036854775808 ≤ place) (hp1 : place ≤ 9223372036854775807) (hc0 : 0 ≤ ch) (hc1 : ch ≤ 255) (hE : Errs3 w) :
    Calls Tryz.prog 3 #[h.ival, .slice A n c, .int .i64 place, .int .u8 ch] w (TrueP w) := by
  have HB0 : Hid (Blk (w.alloc (.cells h.iarr 26)) w.heap.size 26 h.icells) := Lib.hid (h.iblk w _)
  have HW0 : Hid (Below w.heap.size w (w.alloc (.cells h.iarr 26))) := Lib.hid ((Below.refl _ _).alloc (Nat.le_refl _) _)
  have HFT : Hid (∀ w1, Below w.heap.size w w1 → Calls Tryz.prog 5 #[.agg h.iarr] w1 (Fits3P h rs w1)) := Lib.hid (fun w1 hb => fits3 h w.heap.size rs w1 hl (hr.below hb) hb.size hrn)
  have HPL : Hid (∀ w1, Below w.heap.size w w1 → h.rn ≤ 2147483647 → Calls Tryz.prog 6 #[.agg h.iarr] w1 (PlainP h rs w1)) := Lib.hid (fun w1 hb hn => lawPlain h w.heap.size rs w1 hl (hr.below hb) hb.size hn)
  have HK := Lib.hid kin
  have HE0 := Lib.hid hE
  have HFM := Lib.hid hfm
  have HRL := Lib.hid hl
  have HCL := Lib.hid hcl
  have HCR := Lib.hid hcr
  have HCC := Lib.hid hcc
  have HCS := Lib.hid hcs
  have HZN : ∀ w3 : World, Hid (Blk (w3.alloc (.cells #[.int .u8 0, .string { data := #[] }, .string { data := #[] }, .int .i64 0, .int .i64 0, .int .i64 0, .int .i64 0, .string { data := #[] }, .string { data := #[] }, .int .i64 0, .int .i64 0, .bool false, .bool false, .int .i64 0, .int .i64 0, .int .i64 0, .int .i64 0, .int .i64 0, .int .i64 0, .slice none 0 0, .int .i64 0] 32)) w3.heap.size 32 hd0.cells) := fun w3 : World => Lib.hid (Blk.new w3 32 hd0.cells)
  unfold Hd.ival
  clear kin hE hfm hl hr hrn hcl hcr hcc hcs
  go_enter Tryz.func3, Tryz.ntmps3
  go_upto_region 1 with fail
  generalize w.alloc (.cells h.iarr 26) = w1 at HB0 HW0 ⊢
  obtain ⟨H, hH⟩ : ∃ H, w.heap.size = H := ⟨_, rfl⟩
  rw [hH] at HB0
  rw [hH]
  have HH := Lib.hid hH
  clear hH
  go_wp2_with (refine wpList_load_row (o := ⟨some 11, _, _, _, _, _⟩) rfl 26 (.tmp 4) rfl H rfl 26 h.iarr (0, 0) _ HB0.out Tryz.underlying26 rfl h.isize_ ?_)
  refine (HFT.out w1 HW0.out).mono ?_
  rintro e w2 ⟨b, rfl, hb, hw⟩
  have HB2 := Lib.hid (HB0.out.below hw HB0.out.lt)
  have HW2 : Hid (Below w.heap.size w w2) := Lib.hid (HW0.out.trans (hw.mono HW0.out.size))
  cases b with
  | false =>
    clear hb hw
    go_wp2
    go_ret
    exact ⟨rfl, HW2.out⟩
  | true =>
  have HFI := Lib.hid (hb rfl)
  clear hb hw
  by_cases hbig : 2147483647 < n
  · have hbig' : (2147483647 : Int) < (n : Int) := by omega
    go_wp2
    go_ret
    exact ⟨rfl, HW2.out⟩
  have hbig' : ¬ (2147483647 : Int) < (n : Int) := by omega
  go_wp2_with (refine wpList_load_row (o := ⟨some 19, _, _, _, _, _⟩) rfl 26 (.tmp 4) rfl H rfl 26 h.iarr (0, 0) _ HB2.out Tryz.underlying26 rfl h.isize_ ?_)
  refine (HPL.out w2 HW2.out (by have h5 := HFI.out.2.2.2.2.1; have h6 := HRL.out; omega)).mono ?_
  rintro e w3 ⟨RA, rc, rfl, _, hw3⟩
  have HW3 : Hid (Below w.heap.size w w3) := Lib.hid (HW2.out.trans (hw3.mono HW2.out.size))
  clear hw3 HB2 HW2 HB0 HW0 HPL HFT
  go_upto_region 4 with (refine wpList_store_row (o := ⟨none, _, _, _, _, _⟩) rfl 32 (.tmp 9) (.tmp 20) rfl w3.heap.size ({ h with rA := RA, rc := rc } : Hd).arr rfl rfl 32 hd0.arr (HZN w3).out ({ h with rA := RA, rc := rc } : Hd).size_ rfl ({ h with rA := RA, rc := rc } : Hd).one_ ?_; have HB4 : Hid (Blk ((w3.alloc (.cells #[.int .u8 0, .string { data := #[] }, .string { data := #[] }, .int .i64 0, .int .i64 0, .int .i64 0, .int .i64 0, .string { data := #[] }, .string { data := #[] }, .int .i64 0, .int .i64 0, .bool false, .bool false, .int .i64 0, .int .i64 0, .int .i64 0, .int .i64 0, .int .i64 0, .int .i64 0, .slice none 0 0, .int .i64 0] 32)).setRow w3.heap.size ({ h with rA := RA, rc := rc } : Hd).arr) w3.heap.size 32 ({ h with rA := RA, rc := rc } : Hd).cells) := Lib.hid (setRow_blk _ _ _ hd0.cells _ (HZN w3).out); have HW4 : Hid (Below w.heap.size w ((w3.alloc (.cells #[.int .u8 0, .string { data := #[] }, .string { data := #[] }, .int .i64 0, .int .i64 0, .int .i64 0, .int .i64 0, .string { data := #[] }, .string { data := #[] }, .int .i64 0, .int .i64 0, .bool false, .bool false, .int .i64 0, .int .i64 0, .int .i64 0, .int .i64 0, .int .i64 0, .int .i64 0, .slice none 0 0, .int .i64 0] 32)).setRow w3.heap.size ({ h with rA := RA, rc := rc } : Hd).arr)) := Lib.hid ((HW3.out.alloc HW3.out.size _).grown (setRow_grown _ _ _) (by have := HW3.out.size; simp; omega) (fun q hq => by cases hq; exact HW3.out.size)); generalize (w3.alloc (.cells #[.int .u8 0, .string { data := #[] }, .string { data := #[] }, .int .i64 0, .int .i64 0, .int .i64 0, .int .i64 0, .string { data := #[] }, .string { data := #[] }, .int .i64 0, .int .i64 0, .bool false, .bool false, .int .i64 0, .int .i64 0, .int .i64 0, .int .i64 0, .int .i64 0, .int .i64 0, .slice none 0 0, .int .i64 0] 32)).setRow w3.heap.size ({ h with rA := RA, rc := rc } : Hd).arr = w4 at HB4 HW4 ⊢; simp only [Act.put])
  obtain ⟨X, hX⟩ : ∃ X, w3.heap.size = X := ⟨_, rfl⟩
  rw [hX] at HB4
  rw [hX]
  have HXW : Hid (w.heap.size ≤ X) := Lib.hid (by rw [← hX]; exact HW3.out.size)
  clear hX HZN
  have k19 : w4.cell? ⟨X, 19, none⟩ = some (.slice RA h.rn rc) := HB4.out.cell 19
  have f19 := HB4.out.frozen 19
  have HB5 : Hid (Blk (w4.setCell ⟨X, 19, none⟩ (.slice none 0 0)) X 32 h.bare.cells) := Lib.hid (HB4.out.set_ 19 (.slice none 0 0))
  have HW5 := Lib.hid (HW4.out.setCell (p := ⟨X, 19, none⟩) HXW.out (.slice none 0 0))
  go_upto_region 5 with fail
  clear k19 f19
  generalize w4.setCell ⟨X, 19, none⟩ (.slice none 0 0) = w5 at HB5 HW5 ⊢
  clear HB4 HW4 HW3
  have k20 : w5.cell? ⟨X, 20, none⟩ = some (.int .i64 3) := by rw [← HFM.out]; exact HB5.out.cell 20
  go_wp2_with (refine wpList_load_roww (o := ⟨some 31, _, _, _, _, _⟩) (by rfl) 32 (.tmp 9) rfl X rfl 32 h.bare.arr (0, 0) _ HB5.out Tryz.underlying32 rfl h.bare.size_ ?_)
  refine (C h.bare w5 rfl rfl (HK.out.ok HFI.out).bare (by have h1 := HFI.out.1; exact h1)).mono ?_
  rintro e w6 ⟨v, rfl, hb6⟩
  have HB6 := Lib.hid (HB5.out.below hb6 HB5.out.lt)
  have HW6 : Hid (Below w.heap.size w w6) := Lib.hid (HW5.out.trans (hb6.mono HW5.out.size))
  clear hb6 k20 HB5 HW5
  by_cases hv : v = 1
  case neg =>
    have hv' : (v == 1) = false := by simpa using hv
    have hvb : (v != 1) = true := by unfold bne; rw [hv']; rfl
    go_wp2
    go_ret
    exact ⟨rfl, HW6.out⟩
  case pos =>
  subst hv
  have k20 : w6.cell? ⟨X, 20, none⟩ = some (.int .i64 3) := by rw [← HFM.out]; exact HB6.out.cell 20
  have k1 : w6.cell? ⟨X, 1, none⟩ = some (.string h.name) := HB6.out.cell 1
  have k2 : w6.cell? ⟨X, 2, none⟩ = some (.string h.link) := HB6.out.cell 2
  by_cases s1 : (100 : Int) < (h.name.size : Int)
  · go_wp2
    go_ret
    exact ⟨rfl, HW6.out⟩
  by_cases s2 : (100 : Int) < (h.link.size : Int)
  · go_wp2
    go_ret
    exact ⟨rfl, HW6.out⟩
  have HS1 : Hid (h.name.size ≤ 100) := Lib.hid (by omega)
  go_wp2_with (refine wpList_load_row (o := ⟨some 49, _, _, _, _, _⟩) rfl 32 (.tmp 9) rfl X rfl 32 h.bare.arr (0, 0) _ HB6.out Tryz.underlying32 rfl h.bare.size_ ?_)
  refine (specBlock true h.bare A n c ns w6 (HK.out.ok HFI.out).bare HS1.out HFM.out HCL.out (by omega) HCC.out ((HCR.out.below HW6.out).more HW6.out.size) HCS.out).mono ?_
  rintro e w7 ⟨g, bs, hg, rfl, hok, hbl, hb, hw⟩
  have HB7 := Lib.hid (HB6.out.below hw HB6.out.lt)
  have HW7 : Hid (Below w.heap.size w w7) := Lib.hid (HW6.out.trans (hw.mono HW6.out.size))
  have HOK := Lib.hid hok
  have HBL := Lib.hid hbl
  have HG := Lib.hid hb
  have HGX : Hid (w.heap.size ≤ g) := Lib.hid (Nat.le_trans HW6.out.size hg)
  clear hok hbl hb hw hg k20 k1 k2 s1 s2 HB6
  have k20 : w7.cell? ⟨X, 20, none⟩ = some (.int .i64 3) := by rw [← HFM.out]; exact HB7.out.cell 20
  have HFO : Hid (∀ w8, Below w7.heap.size w7 w8 → Calls Tryz.prog 9 #[.slice (some ⟨g, 0, none⟩) 512 512] w8 fun e w' => e = .returned (.int .i64 3) ∧ Below w8.heap.size w8 w') := Lib.hid (fun w8 hb8 => by
    obtain ⟨cs, t, D, e1, e2, e3, e4, e5, e6, hmg, hzt⟩ := HOK.out
    have hB8 := HG.out.below hb8 HG.out.lt
    exact formatOf_gnu _ _ (g + 1) bs w8 HBL.out (RB.of_blk hB8) hB8.lt HOK.out.yes hmg hzt (HE0.out.below (HW7.out.trans (hb8.mono HW7.out.size))))
  have KS : Hid (∀ w', Below w7.heap.size w7 w' → w'.cell? ⟨X, 20, none⟩ = some (.int .i64 3) ∧ Below w7.heap.size w7 w') := Lib.hid (fun w' hb => by
    have hB := HB7.out.below hb HB7.out.lt
    exact ⟨by rw [← HFM.out]; exact hB.cell 20, hb⟩)
  have KB : Hid (∀ w' w'', (w'.cell? ⟨X, 20, none⟩ = some (.int .i64 3) ∧ Below w7.heap.size w7 w') → Below w'.heap.size w' w'' → _) := Lib.hid (fun w' w'' h hb => KS.out w'' (h.2.trans (hb.mono h.2.size)))
  have KX : Hid (∀ w', (w'.cell? ⟨X, 20, none⟩ = some (.int .i64 3) ∧ Below w7.heap.size w7 w') → Below w7.heap.size w7 w') := Lib.hid (fun w' h => h.2)
  go_upto_region 8 with fail
  go_cut [56] (fun v wx => v = .bool false ∧ Hid (Below w7.heap.size w7 wx))
  case first => as_aux_lemma =>
    go_region_held3 (fun w' => w'.cell? ⟨X, 20, none⟩ = some (.int .i64 3) ∧ Below w7.heap.size w7 w') (first | exact KS.out _ ((Below.refl _ w7).drew) | assumption | exact KB.out _ _ (by assumption) hbo)
      (first
      | (go_at_call 9; refine (HFO.out _ (KX.out _ (by assumption))).mono ?_; rintro e w' ⟨rfl, hbo⟩))
    go_wp2_with fail
    go_meet
    case rel => exact ⟨rfl, Lib.hid (KX.out _ (by assumption))⟩
  case rest =>
  obtain ⟨rfl, HXN⟩ := hcut
  clear KS KB KX HFO k20
  obtain ⟨w8, hw8⟩ : ∃ w5, w5 = wc := ⟨_, rfl⟩
  subst hw8
  have HG8 := Lib.hid (HG.out.below HXN.out HG.out.lt)
  have HW8 : Hid (Below w.heap.size w w8) := Lib.hid (HW7.out.trans (HXN.out.mono HW7.out.size))
  clear HB7 HG HXN HW7
  obtain ⟨q, hq, hq5⟩ : ∃ q : Nat, place % 504 = (q : Int) ∧ q < 504 := ⟨(place % 504).toNat, by omega, by omega⟩
  have HQ := Lib.hid hq
  clear hq
  obtain ⟨p, hp, hp5, hpo⟩ : ∃ p : Nat, (p = if 148 ≤ q then q + 8 else q) ∧ p < 512 ∧ ¬ (148 ≤ p ∧ p < 156) := by
    by_cases hq8 : 148 ≤ q
    · exact ⟨q + 8, by rw [if_pos hq8], by omega, by omega⟩
    · exact ⟨q, by rw [if_neg hq8], by omega, by omega⟩
  have HPO := Lib.hid hpo
  have HP5 := Lib.hid hp5
  have HPE := Lib.hid hp
  clear hpo hp
  have hcell : w8.cell? ⟨g, p, none⟩ = some (.int .u8 (byt bs p)) := by rw [HG8.out.cell, bys_get _ _ (by rw [HBL.out]; exact hp5)]
  have hfr : w8.frozen? ⟨g, p, none⟩ = false := HG8.out.frozen p
  go_upto_region 11 with (go_at_call 10; refine (below_any _ _ _ hp0 hp1 (by omega) (by omega)).mono ?_; rw [HQ.out]; rintro e w' ⟨rfl, rfl⟩)
  go_upto_if 60 with fail
  go_cut [2] (fun v wx => v = .int .i64 p ∧ Hid (w8 = wx))
  case first => as_aux_lemma =>
    by_cases hq8 : 148 ≤ q
    · have hq8' : (148 : Int) ≤ (q : Int) := by omega
      have HPQ : Hid ((p : Int) = (q : Int) + 8) := Lib.hid (by rw [HPE.out, if_pos hq8]; omega)
      clear hcell hfr
      go_wp2
      go_meet
      case rel => exact ⟨by rw [HPQ.out], Lib.hid rfl⟩
    · have hq8' : ¬ (148 : Int) ≤ (q : Int) := by omega
      have HPQ : Hid ((p : Int) = (q : Int)) := Lib.hid (by rw [HPE.out, if_neg hq8])
      clear hcell hfr
      go_wp2
      go_meet
      case rel => exact ⟨by rw [HPQ.out], Lib.hid rfl⟩
  case rest =>
  obtain ⟨rfl, hw⟩ := hcut
  have hw' := hw.out
  clear hw
  subst hw'
  clear hq5 HQ HPE hbig' HH
  by_cases hcz : ch = 0
  · subst hcz
    go_wp2
    go_ret
    exact ⟨rfl, HW8.out.setCell (p := ⟨g, p, none⟩) HGX.out _⟩
  have hcz' : (ch == 0) = false := by simpa using hcz
  obtain ⟨v, hv, hne⟩ := tell_byte bs HBL.out p HP5.out ch hc0 hc1 hcz HPO.out
  have HNE := Lib.hid hne
  have HB9 : Hid (Blk (w8.setCell ⟨g, p, none⟩ (.int .u8 (v.toNat : Int))) g 5 (bys (bs.set p v))) := Lib.hid (by rw [← bys_set]; exact HG8.out.set_ p _)
  have HW9 := Lib.hid (HW8.out.setCell (p := ⟨g, p, none⟩) HGX.out (.int .u8 (v.toNat : Int)))
  have HFO : Hid (Calls Tryz.prog 9 #[.slice (some ⟨g, 0, none⟩) 512 512] (w8.setCell ⟨g, p, none⟩ (.int .u8 (v.toNat : Int))) fun e w' => e = .returned (.int .i64 0) ∧ Below (w8.setCell ⟨g, p, none⟩ (.int .u8 (v.toNat : Int))).heap.size (w8.setCell ⟨g, p, none⟩ (.int .u8 (v.toNat : Int))) w') := Lib.hid (
    formatOf_no _ _ (g + 1) (bs.set p v) _ (by rw [List.length_set]; exact HBL.out) (RB.of_blk HB9.out) HB9.out.lt (HOK.out.no HBL.out HP5.out HPO.out HNE.out) (HE0.out.below HW9.out))
  clear hne hcz
  go_wp2_with fail
  refine HFO.out.mono ?_
  rintro e w' ⟨rfl, hb9⟩
  have HWX := Lib.hid (HW9.out.trans (hb9.mono HW9.out.size))
  clear hb9
  go_wp2
  go_ret
  exact ⟨rfl, HWX.out⟩
theorem fnBf_walk (C1 : CanAny 1) (C3 : CanAny 3) (h : Hd) (rs : List (ByteArray × ByteArray)) (A : Option Addr) (n c : Nat) (ns : List Int) (place ch : Int) (w : World) (kin : h.In) (hl : rs.length = h.rn) (hr : RC w w.heap.size h.rA (recsV rs)) (hrn : h.rn ≤ 9223372036854775807) (hcl : ns.length = n) (hcr : RC w w.heap.size A (nums ns)) (hcc : n ≤ c) (hcs : Small ns) (hcn : n ≤ 9223372036854775807) (hp0 : -9223372036854775808 ≤ place) (hp1 : place ≤ 9223372036854775807) (hc0 : 0 ≤ ch) (hc1 : ch ≤ 255) (hE : Errs3 w) :
    Calls Tryz.prog 3 #[h.ival, .slice A n c, .int .i64 place, .int .u8 ch] w (TrueP w) := by
  by_cases h1 : h.fm = 1
  · exact bf1 C1 h rs A n c ns place ch w kin h1 hl hr hrn hcl hcr hcc hcs hcn hp0 hp1 hc0 hc1 hE
  by_cases h3 : h.fm = 3
  · exact bf3 C3 h rs A n c ns place ch w kin h3 hl hr hrn hcl hcr hcc hcs hcn hp0 hp1 hc0 hc1 hE
  exact bf0 h rs A n c ns place ch w kin ⟨h1, h3⟩ hl hr hrn hcl hcr hcc hcs hcn hp0 hp1 hc0 hc1 hE
end Go.Proofs.YtepeehjajhehfaaGreatDoor
