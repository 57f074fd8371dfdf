/- The sparse reader: what is left of a file; plain words on its holes. -/
import Derived.Test.YtiahifohkhdmdaaDoorSp3
import Derived.Test.YtiahifohkhdmdaaDoorVe
namespace Go.Proofs.YtiahifohkhdmdaaDoor
open Go.RowKit Go.PlainAid
set_option linter.unusedVariables false

/-- The cells of a sparse reader. -/
def srCells (Fr : Nat) (A : Option Addr) (m c : Nat) (p : Int) : List Value := [.iface 74 (.pointer (some ⟨Fr, 0, none⟩)), .slice A m c, .int .i64 p]
/-- A call that returns v, and makes new blocks alone. -/
def Fresh (v : Value) (w : World) (e : Ending) (w' : World) : Prop := e = .returned v ∧ Below w.heap.size w w'

set_option maxRecDepth 20000 in
set_option maxHeartbeats 800000 in
theorem logical (Fr b off q c : Nat) (x y p : Int) (w : World) (h1 : w.cell? ⟨b, off + q * 2, none⟩ = some (.int .i64 x)) (h2 : w.cell? ⟨b, off + q * 2 + 1, none⟩ = some (.int .i64 y)) (hq : q < c) (hqb : q ≤ 4611686018427387904) (hb : b < w.heap.size)
    (x0 : 0 ≤ x) (x1 : x ≤ 1099511627776) (y0 : 0 ≤ y) (y1 : y ≤ 1099511627776) (p0 : 0 ≤ p) (p1 : p ≤ x + y) :
    Calls Tryd.prog 35 #[.agg #[.iface 74 (.pointer (some ⟨Fr, 0, none⟩)), .slice (some ⟨b, off, none⟩) (q + 1) c, .int .i64 p]] w (Fresh (.int .i64 (x + y - p)) w) := by
  have HB0 := Lib.hid (Blk.new w 87 (srCells Fr (some ⟨b, off, none⟩) (q + 1) c p))
  have HF0 := Lib.hid ((Below.refl w.heap.size w).alloc (Nat.le_refl _) (.cells (srCells Fr (some ⟨b, off, none⟩) (q + 1) c p).toArray 87))
  go_enter Tryd.func35, Tryd.ntmps35
  go_wp2_with fail
  have h3 : (w.alloc (.cells (srCells Fr (some ⟨b, off, none⟩) (q + 1) c p).toArray 87)).cell? ⟨b, off + q * 2, none⟩ = some (.int .i64 x) := (World.cell?_alloc_lt w _ ⟨b, off + q * 2, none⟩ hb).trans h1
  have h4 : (w.alloc (.cells (srCells Fr (some ⟨b, off, none⟩) (q + 1) c p).toArray 87)).cell? ⟨b, off + q * 2 + 1, none⟩ = some (.int .i64 y) := (World.cell?_alloc_lt w _ ⟨b, off + q * 2 + 1, none⟩ hb).trans h2
  clear h1 h2
  have hs : (w.alloc (.cells (srCells Fr (some ⟨b, off, none⟩) (q + 1) c p).toArray 87)).heap.size = w.heap.size + 1 := by simp
  change Code.wp _ _ _ _ (w.alloc (.cells (srCells Fr (some ⟨b, off, none⟩) (q + 1) c p).toArray 87))
  generalize w.alloc (.cells (srCells Fr (some ⟨b, off, none⟩) (q + 1) c p).toArray 87) = w1 at HB0 HF0 h3 h4 hs ⊢
  generalize hG : w.heap.size = G at HB0 HF0 hs ⊢
  have d1 : w1.cell? ⟨G, 1, none⟩ = some (.slice (some ⟨b, off, none⟩) (q + 1) c) := by rw [HB0.out.cell]; rfl
  have d2 : w1.cell? ⟨G, 2, none⟩ = some (.int .i64 p) := by rw [HB0.out.cell]; rfl
  have HGG := Lib.hid hG
  clear hG
  have i1 : (q : Int) < (c : Int) := by omega
  have i2 : IntKind.i64.wrap ((q : Int) + 1 - 1) = (q : Int) := by rw [IntWalk.i64_in _ (by omega)]; omega
  have i4 : (0 : Int) ≤ (q : Int) := by omega
  have i5 : (q : Int) < (q : Int) + 1 := by omega
  have i6 : IntKind.i64.wrap (q : Int) = (q : Int) := IntWalk.i64_in _ (by omega)
  have i3 : IntKind.i64.wrap (x + y - p) = x + y - p := IntWalk.i64_in _ (by omega)
  go_region_held3 (fun w' => w'.cell? ⟨G, 1, none⟩ = some (.slice (some ⟨b, off, none⟩) (q + 1) c) ∧ w'.cell? ⟨G, 2, none⟩ = some (.int .i64 p) ∧ w'.cell? ⟨b, off + q * 2, none⟩ = some (.int .i64 x) ∧ w'.cell? ⟨b, off + q * 2 + 1, none⟩ = some (.int .i64 y)) (go_keep)
    ((go_at_call 36; refine (endOffset_any x y _ (by omega) (by omega)).mono ?_; rintro e w' ⟨rfl, rfl⟩))
  go_wp2
  go_ret
  refine ⟨rfl, ?_⟩
  rw [HGG.out]
  exact (HF0.out.alloc (by omega) _).drew

set_option maxRecDepth 20000 in
set_option maxHeartbeats 800000 in
theorem regPhysical (Br : Nat) (n : Int) (w : World) :
    Calls Tryd.prog 69 #[.agg #[.iface 75 (.pointer (some ⟨Br, 0, none⟩)), .int .i64 n]] w (Fresh (.int .i64 n) w) := by
  go_enter Tryd.func69, Tryd.ntmps69
  go_wp2
  go_ret
  exact ⟨rfl, (Below.refl _ _).alloc (Nat.le_refl _) _⟩

theorem methRow : ((Tryd.prog.info? 74).bind fun i => (i.methods.find? (·.name == "tapearchives/pub/gotar.physicalRemaining")).map fun m => (m.path.toList, m.func)) = some ([], some (69, false)) := by kernel_rfl
theorem methPhys (f Fr : Nat) (x y : Value) (w : World) (h1 : w.cell? ⟨Fr, 0, none⟩ = some x) (h2 : w.cell? ⟨Fr, 1, none⟩ = some y) :
    (method (f + 1) 74 (.pointer (some ⟨Fr, 0, none⟩)) "tapearchives/pub/gotar.physicalRemaining").run Tryd.prog w = .ok (69, .agg #[x, y]) w := by
  have hrow := methRow
  cases hi : Tryd.prog.info? 74 with
  | none => rw [hi] at hrow; cases hrow
  | some i =>
    rw [hi] at hrow
    cases hm : i.methods.find? (·.name == "tapearchives/pub/gotar.physicalRemaining") with
    | none => simp [hm] at hrow
    | some m =>
      simp [hm] at hrow
      obtain ⟨hp, hf⟩ := hrow
      have hv : (loadVar 80 ⟨Fr, 0, none⟩).run Tryd.prog w = .ok (.agg #[x, y]) w := by simp [go_sem, h1, h2]
      have hu := fun w => run_underlying (P := Tryd.prog) (w := w) Tryd.underlying74
      have hk : ∀ (t : TypeId) (nm : String), Builtin.ssaWrapNilChk_ #[t] t #[.pointer (some ⟨Fr, 0, none⟩), strVal "", strVal nm] = pure (.pointer (some ⟨Fr, 0, none⟩)) := fun _ _ => rfl
      unfold method
      simp [typeInfo, hi, hm, hp, hf, follow, receiverAt, hu, Place.get, hk, asAddr, hv]

set_option maxRecDepth 20000 in
set_option maxHeartbeats 800000 in
theorem physical (Fr Br m c : Nat) (A : Option Addr) (p n : Int) (w : World) (h1 : w.cell? ⟨Fr, 0, none⟩ = some (.iface 75 (.pointer (some ⟨Br, 0, none⟩)))) (h2 : w.cell? ⟨Fr, 1, none⟩ = some (.int .i64 n)) :
    Calls Tryd.prog 38 #[.agg #[.iface 74 (.pointer (some ⟨Fr, 0, none⟩)), .slice A m c, .int .i64 p]] w (Fresh (.int .i64 n) w) := by
  have hlt := lt_of_cell' h1
  have hm := fun f => methPhys f Fr _ _ (w.alloc (.cells #[.iface 74 (.pointer (some ⟨Fr, 0, none⟩)), .slice A m c, .int .i64 p] 87)) ((World.cell?_alloc_lt w _ ⟨Fr, 0, none⟩ hlt).trans h1) ((World.cell?_alloc_lt w _ ⟨Fr, 1, none⟩ hlt).trans h2)
  clear h1 h2
  go_enter Tryd.func38, Tryd.ntmps38
  go_wp2_with fail
  refine (regPhysical Br n _).mono ?_
  rintro e w' ⟨rfl, hb⟩
  go_wp2
  go_ret
  exact ⟨rfl, ((Below.refl w.heap.size w).alloc (Nat.le_refl _) _).trans (hb.mono (by simp))⟩
end Go.Proofs.YtiahifohkhdmdaaDoor
