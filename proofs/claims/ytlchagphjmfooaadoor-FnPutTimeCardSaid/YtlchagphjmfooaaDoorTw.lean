/- Walks of pub/timecore: Unix, the methods Unix and Nanosecond. -/
import Derived.Test.YtlchagphjmfooaaDoorRec
import Derived.Laws.Rows
import Derived.Laws.BitsAllLaws
namespace Go.Proofs.YtlchagphjmfooaaDoor
open Go.RowKit Go.PlainAid
set_option linter.unusedVariables false

theorem timInfo : (Tryd.prog.info? 110).map (·.size) = some 2 := by kernel_rfl
theorem and_low (n : Int) (h1 : 0 ≤ n) (h2 : n < 1000000000) : bits .and .u64 n 9223372036854775808 = 0 ∧ bits .and .u64 n 1073741823 = n := by
  constructor
  · rw [u64_and n 9223372036854775808 h1 (by omega) (by omega) (by omega)]
    have e := nat_bit 63 n.toNat
    have e2 : (2 : Nat) ^ 63 = 9223372036854775808 := by decide
    rw [e2] at e
    rw [show ((9223372036854775808 : Int)).toNat = 9223372036854775808 from rfl, e]
    have : n.toNat / 9223372036854775808 = 0 := Nat.div_eq_of_lt (by omega)
    rw [this]
    rfl
  · rw [u64_and n 1073741823 h1 (by omega) (by omega) (by omega)]
    have e := Nat.and_two_pow_sub_one_eq_mod n.toNat 30
    have e2 : (2 : Nat) ^ 30 = 1073741824 := by decide
    rw [e2] at e
    rw [show ((1073741823 : Int)).toNat = 1073741824 - 1 from rfl, e]
    omega
theorem wrap_i64 (n : Int) : IntKind.i64.wrap n = wrap64 n := by rw [IntKind.wrap_i64]; unfold wrap64; omega

set_option maxRecDepth 20000 in
set_option maxHeartbeats 400000 in
theorem unixTime_ok (s n x : Int) (w : World) (h1 : 0 ≤ n) (h2 : n < 1000000000) (hx : IntKind.i64.wrap (s + 62135596800) = x) :
    Calls Tryd.prog 84 #[.int .i64 s, .int .i32 n] w fun e w' => e = .returned (.agg #[.int .u64 n, .int .i64 x]) ∧ Below w.heap.size w w' := by
  have u1 : IntKind.u64.wrap n = n := IntWalk.u64_in _ ⟨by omega, by omega⟩
  go_enter Tryd.func84, Tryd.ntmps84
  go_wp2
  refine bodyPost_ret (results_cell_row rfl _ _ w.heap.size _ #[_, _] _ _ rfl (Blk.new w _ [_, _]) Tryd.underlying110 rfl timInfo) rfl ?_
  exact ⟨rfl, (Below.refl _ w).alloc (Nat.le_refl _) _⟩

def TimPost (n x : Int) (w : World) (e : Ending) (w' : World) : Prop := e = .returned (.agg #[.int .u64 n, .int .i64 x]) ∧ Below w.heap.size w w'
theorem zero_blk (w w1 : World) (T : TypeId) (a b : Value) (h : Below (w.alloc (.cells #[a, b] T)).heap.size (w.alloc (.cells #[a, b] T)) w1) : Blk w1 w.heap.size T [a, b] ∧ Below w.heap.size w w1 :=
  ⟨(Blk.new w T [a, b]).below h (Blk.new w T [a, b]).lt, ((Below.refl _ w).alloc (Nat.le_refl _) _).trans (h.mono (Nat.le_of_lt (Blk.new w T [a, b]).lt))⟩

set_option maxRecDepth 20000 in
set_option maxHeartbeats 400000 in
theorem unix_pos (s n x : Int) (w : World) (h1 : 0 ≤ n) (h2 : n < 1000000000) (hx : IntKind.i64.wrap (s + 62135596800) = x) :
    Calls Tryd.prog 64 #[.int .i64 s, .int .i64 n] w (TimPost n x w) := by
  have u1 : IntKind.i32.wrap n = n := IntWalk.i32_in _ ⟨by omega, by omega⟩
  have k1 : ¬ n < 0 := by omega
  have k2 : ¬ 1000000000 ≤ n := by omega
  have HX := Lib.hid hx
  clear hx
  go_enter Tryd.func64, Tryd.ntmps64
  go_wp2_with (
    go_at_call 84
    refine (unixTime_ok s n x _ h1 h2 HX.out).mono ?_
    rintro e w1 ⟨rfl, hb1⟩
    obtain ⟨HB0, HB1⟩ := zero_blk _ _ _ _ _ hb1
    have c0 : w1.cell? ⟨w.heap.size, 0, none⟩ = some (.int .u64 0) := by rw [HB0.cell]; rfl
    have c1 : w1.cell? ⟨w.heap.size, 1, none⟩ = some (.int .i64 0) := by rw [HB0.cell]; rfl
    have f0 := HB0.frozen 0
    have f1 := HB0.frozen 1
    replace HB0 := Lib.hid HB0
    replace HB1 := Lib.hid HB1
    clear hb1)
  refine bodyPost_ret (results_cell_row rfl _ _ w.heap.size _ #[_, _] _ _ rfl ((HB0.out.set_ 0 _).set_ 1 _) Tryd.underlying110 rfl timInfo) rfl ?_
  exact ⟨rfl, (HB1.out.setCell (Nat.le_refl _) _).setCell (Nat.le_refl _) _⟩
set_option maxRecDepth 20000 in
set_option maxHeartbeats 400000 in
theorem unix_neg (s n x : Int) (w : World) (h1 : n < 0) (h2 : -1000000000 < n) (hs : -9223372036854775808 ≤ s ∧ s ≤ 9223372036854775807) (hx : IntKind.i64.wrap (s - 1 + 62135596800) = x) :
    Calls Tryd.prog 64 #[.int .i64 s, .int .i64 n] w (TimPost (n + 1000000000) x w) := by
  have u0 : n.tdiv 1000000000 = 0 := by
    have e : n = -(-n) := by omega
    rw [e, Int.neg_tdiv, Int.tdiv_eq_ediv_of_nonneg (by omega)]
    omega
  have u2 : IntKind.i64.wrap s = s := IntWalk.i64_in _ (by omega)
  have u3 : IntKind.i64.wrap n = n := IntWalk.i64_in _ (by omega)
  have u4 : IntKind.i64.wrap (n + 1000000000) = n + 1000000000 := IntWalk.i64_in _ (by omega)
  have u1 : IntKind.i32.wrap (n + 1000000000) = n + 1000000000 := IntWalk.i32_in _ ⟨by omega, by omega⟩
  have u5 : ¬ (n + 1000000000 < 0) := by omega
  obtain ⟨z, hz⟩ : ∃ z, IntKind.i64.wrap (s - 1) = z := ⟨_, rfl⟩
  have HX : Hid (IntKind.i64.wrap (z + 62135596800) = x) := Lib.hid (by rw [← hx, ← hz]; simp only [wrap_i64]; unfold wrap64; omega)
  have k1 : ¬ 0 ≤ n := by omega
  clear hx
  go_enter Tryd.func64, Tryd.ntmps64
  go_wp2_with (
    go_at_call 84
    refine (unixTime_ok z (n + 1000000000) x _ (by omega) (by omega) HX.out).mono ?_
    rintro e w1 ⟨rfl, hb1⟩
    obtain ⟨HB0, HB1⟩ := zero_blk _ _ _ _ _ hb1
    have c0 : w1.cell? ⟨w.heap.size, 0, none⟩ = some (.int .u64 0) := by rw [HB0.cell]; rfl
    have c1 : w1.cell? ⟨w.heap.size, 1, none⟩ = some (.int .i64 0) := by rw [HB0.cell]; rfl
    have f0 := HB0.frozen 0
    have f1 := HB0.frozen 1
    replace HB0 := Lib.hid HB0
    replace HB1 := Lib.hid HB1
    clear hb1)
  refine bodyPost_ret (results_cell_row rfl _ _ w.heap.size _ #[_, _] _ _ rfl ((HB0.out.set_ 0 _).set_ 1 _) Tryd.underlying110 rfl timInfo) rfl ?_
  exact ⟨rfl, (HB1.out.setCell (Nat.le_refl _) _).setCell (Nat.le_refl _) _⟩

set_option maxRecDepth 20000 in
set_option maxHeartbeats 400000 in
theorem unixM (n x s : Int) (w : World) (h1 : 0 ≤ n) (h2 : n < 1000000000) (hx : wrap64 (x + -62135596800) = s) :
    Calls Tryd.prog 57 #[.agg #[.int .u64 n, .int .i64 x]] w fun e w' => e = .returned (.int .i64 s) ∧ w' = w.alloc (.cells #[.int .u64 n, .int .i64 x] 110) := by
  obtain ⟨a1, a2⟩ := and_low n h1 h2
  go_enter Tryd.func57, Tryd.ntmps57
  go_wp2
  go_ret
  exact ⟨by rw [← hx]; rfl, rfl⟩
set_option maxRecDepth 20000 in
set_option maxHeartbeats 400000 in
theorem nanoM (n x : Int) (w : World) (h1 : 0 ≤ n) (h2 : n < 1000000000) :
    Calls Tryd.prog 58 #[.agg #[.int .u64 n, .int .i64 x]] w fun e w' => e = .returned (.int .i64 n) ∧ w' = w.alloc (.cells #[.int .u64 n, .int .i64 x] 110) := by
  obtain ⟨a1, a2⟩ := and_low n h1 h2
  have u1 : IntKind.i32.wrap n = n := IntWalk.i32_in _ ⟨by omega, by omega⟩
  have u2 : IntKind.i64.wrap n = n := IntWalk.i64_in _ (by omega)
  go_enter Tryd.func58, Tryd.ntmps58
  go_wp2
  go_ret
  exact ⟨rfl, rfl⟩
end Go.Proofs.YtlchagphjmfooaaDoor
