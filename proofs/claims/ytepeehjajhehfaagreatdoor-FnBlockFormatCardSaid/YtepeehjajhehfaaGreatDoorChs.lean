/- The chooser of package spec: of. -/
import Derived.Test.YtepeehjajhehfaaGreatDoorFar
import Derived.Test.YtepeehjajhehfaaGreatDoorNums
import Derived.Test.YtepeehjajhehfaaGreatDoorRows
import Derived.Deep.RegionHeld3
namespace Go.Proofs.YtepeehjajhehfaaGreatDoor
open Go.RowKit Go.PlainAid
set_option linter.unusedVariables false

/-- A chooser at block Cb, that has chosen k times. -/
structure Ch (Cb k : Nat) (w : World) : Prop where
  ex : ∃ (A : Option Addr) (n c : Nat) (ns : List Int), Blk w Cb 64 [.slice A n c, .int .i64 (k : Int)] ∧ ns.length = n ∧ n ≤ 2147483647 ∧ n ≤ c ∧ RC w Cb A (nums ns) ∧ Small ns ∧ (0 < n → ∀ ad, A = some ad → ad.block < Cb)
theorem Ch.lt {Cb k : Nat} {w : World} (h : Ch Cb k w) : Cb < w.heap.size := by obtain ⟨A, n, c, ns, b, _⟩ := h.ex; exact b.lt
theorem Ch.far {Cb k : Nat} {S : List Nat} {w w' : World} (h : Ch Cb k w) (hf : Far S w w') (hS : ∀ j ∈ S, Cb < j) : Ch Cb k w' := by
  obtain ⟨A, n, c, ns, b, h1, h2, h3, h4, h5, h6⟩ := h.ex
  exact ⟨A, n, c, ns, b.of_far hf (fun hk => by have := hS _ hk; omega), h1, h2, h3, fun hp => (h4.of_far hf (Nat.le_of_lt b.lt) (fun ad e hk => by have := h6 (by rw [length_nums, h1] at hp; exact hp) ad e; have := hS _ hk; omega)) hp, h5, h6⟩
theorem Ch.below {Cb k B : Nat} {w w' : World} (h : Ch Cb k w) (hb : Below B w w') (hB : Cb < B) : Ch Cb k w' := by
  obtain ⟨A, n, c, ns, b, h1, h2, h3, h4, h5, h6⟩ := h.ex
  exact ⟨A, n, c, ns, b.below hb hB, h1, h2, h3, h4.below (hb.mono (Nat.le_of_lt hB)), h5, h6⟩
def OfP (Cb k n : Nat) (w : World) (e : Ending) (w' : World) : Prop := ∃ v k' : Nat, v < n ∧ e = .returned (.int .i64 (v : Int)) ∧ k' ≤ k + 1 ∧ Ch Cb k' w' ∧ Far [Cb] w w'

set_option maxRecDepth 20000 in
set_option maxHeartbeats 1600000 in
theorem chOf (Cb k n : Nat) (w : World) (h : Ch Cb k w) (hn1 : 1 ≤ n) (hn : n ≤ 1000000) (hk : k ≤ 1000000) :
    Calls Tryz.prog 45 #[.pointer (some ⟨Cb, 0, none⟩), .int .i64 (n : Int)] w (OfP Cb k n w) := by
  have HC := Lib.hid h
  obtain ⟨A, m, c, ns, hb, h1, h2, h3, h4, h5, h6⟩ := h.ex
  have c0 : w.cell? ⟨Cb, 0, none⟩ = some (.slice A m c) := by rw [hb.cell]; rfl
  have c1 : w.cell? ⟨Cb, 1, none⟩ = some (.int .i64 (k : Int)) := by rw [hb.cell]; rfl
  by_cases hm : m = 0
  · subst hm
    clear hb h1 h4 h5 h6 h
    go_enter Tryz.func45, Tryz.ntmps45
    go_wp2
    go_ret
    exact ⟨0, k, by omega, rfl, by omega, HC.out, Far.refl _ _⟩
  have m0 : ((m : Int) == 0) = false := by rw [beq_eq_false_iff_ne]; omega
  by_cases hn2 : n < 2
  · have hn2' : (n : Int) < 2 := by omega
    clear hb h1 h4 h5 h6 h
    go_enter Tryz.func45, Tryz.ntmps45
    go_wp2
    go_ret
    exact ⟨0, k, by omega, rfl, by omega, HC.out, Far.refl _ _⟩
  have hn2' : ¬ (n : Int) < 2 := by omega
  have n0 : ((n : Int) == 0) = false := by rw [beq_eq_false_iff_ne]; omega
  obtain ⟨q, hq⟩ : ∃ q, k % m = q := ⟨_, rfl⟩
  have hqm : q < m := by rw [← hq]; exact Nat.mod_lt _ (by omega)
  have t1 : (k : Int).tmod (m : Int) = (q : Int) := by rw [← hq]; rfl
  obtain ⟨b, off, rfl, hbB, c2⟩ := h4.num (k := q) (by omega)
  replace c2 := c2 q (by omega)
  obtain ⟨hx1, hx2⟩ := h5 q
  obtain ⟨x, hx⟩ : ∃ x, nv ns q = x := ⟨_, rfl⟩
  rw [hx] at c2 hx1 hx2
  obtain ⟨r, hr⟩ : ∃ r, x.tmod (n : Int) = r := ⟨_, rfl⟩
  have r1 : -(n : Int) < r ∧ r < (n : Int) := by
    have e1 := Int.natAbs_tmod x (n : Int)
    rw [hr] at e1
    have e2 : x.natAbs % (n : Int).natAbs < (n : Int).natAbs := Nat.mod_lt _ (by omega)
    omega
  obtain ⟨r1, r2⟩ := r1
  have q0 : (0 : Int) ≤ (q : Int) := by omega
  have q1 : (q : Int) < (m : Int) := by omega
  have u1 : IntKind.i64.wrap ((k : Int) + 1) = (k : Int) + 1 := IntWalk.i64_in _ (by omega)
  have f1 := hb.frozen 1
  have HB := Lib.hid hb
  have HREST := Lib.hid (And.intro h1 (And.intro h2 (And.intro h3 (And.intro h4 (And.intro h5 h6)))))
  have hn00 : ¬ n = 0 := by omega
  have m00 : ¬ (m : Int) = 0 := by omega
  have n00 : ¬ (n : Int) = 0 := by omega
  clear hb h1 h4 h5 h6 h hq hx hn2
  have FIN : ∀ j : Nat, Hid (Far [Cb] w ((w.drewN j).setCell ⟨Cb, 1, none⟩ (.int .i64 ((k : Int) + 1))) ∧ Ch Cb (k + 1) ((w.drewN j).setCell ⟨Cb, 1, none⟩ (.int .i64 ((k : Int) + 1)))) := fun j => Lib.hid (by
    have hf : Far [Cb] w ((w.drewN j).setCell ⟨Cb, 1, none⟩ (.int .i64 ((k : Int) + 1))) := ((Far.refl _ w).drewN j).setCell (.inl (by simp)) _
    obtain ⟨h1, h2, h3, h4, h5, h6⟩ := HREST.out
    refine ⟨hf, ⟨_, _, _, ns, (HB.out.drewN j).set_ 1 (.int .i64 ((k : Int) + 1)), h1, h2, h3, ?_, h5, h6⟩⟩
    exact (h4.drewN j).setCell (Nat.le_refl _) _)
  by_cases hr0 : r < 0
  · have u2 : IntKind.i64.wrap (r + (n : Int)) = r + (n : Int) := IntWalk.i64_in _ (by omega)
    obtain ⟨v, hv⟩ : ∃ v : Nat, r + (n : Int) = (v : Int) := ⟨(r + (n : Int)).toNat, by omega⟩
    have hvn : v < n := by omega
    have HV := Lib.hid hv
    clear hv
    go_enter Tryz.func45, Tryz.ntmps45
    go_wp2
    go_region_held3 (fun w' => w'.cell? ⟨Cb, 0, none⟩ = some (.slice (some ⟨b, off, none⟩) m c) ∧ w'.cell? ⟨Cb, 1, none⟩ = some (.int .i64 (k : Int)) ∧ w'.cell? ⟨b, off + q, none⟩ = some (.int .i64 x)) (go_keep) (fail)
    go_wp2
    go_ret
    exact ⟨v, k + 1, hvn, by rw [← HV.out]; rfl, by omega, (FIN 1).out.2, (FIN 1).out.1⟩
  · obtain ⟨v, hv⟩ : ∃ v : Nat, r = (v : Int) := ⟨r.toNat, by omega⟩
    have hvn : v < n := by omega
    have HV := Lib.hid hv
    clear hv
    go_enter Tryz.func45, Tryz.ntmps45
    go_wp2
    go_region_held3 (fun w' => w'.cell? ⟨Cb, 0, none⟩ = some (.slice (some ⟨b, off, none⟩) m c) ∧ w'.cell? ⟨Cb, 1, none⟩ = some (.int .i64 (k : Int)) ∧ w'.cell? ⟨b, off + q, none⟩ = some (.int .i64 x)) (go_keep) (fail)
    go_wp2
    go_ret
    exact ⟨v, k + 1, hvn, by rw [HV.out]; rfl, by omega, (FIN 1).out.2, (FIN 1).out.1⟩
end Go.Proofs.YtepeehjajhehfaaGreatDoor
